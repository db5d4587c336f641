import JvmDerived
import JvmDerived.Pilot.@@N@@Statement
import JvmDerived.Pilot.@@N@@Code
set_option linter.unusedVariables false
set_option linter.unusedSimpArgs false
namespace Jvm.Pilot.@@N@@
open Jvm Jvm.ClassFile Sem Op Lib Jvm.Free Jvm.Stand Jvm.LawKit Jvm.RoadKit Bundle Jvm.Pilot.@@N@@.Jvm.D
-- OWN KIT: a walk over an abstract heap. 'own_Ob': an array (kind, values) or an object (class, fields).
abbrev own_Ob : Type := (FieldType × List Value) ⊕ (String × List (String × String × Value))
abbrev own_Hs : Type := List (Addr × own_Ob)
def own_is (Z : State) (h : Heap) (a : Addr) : own_Ob → Prop
  | .inl q => ∃ c : Cell, Arr Z h a c q.1 ∧ c.slots.toList = q.2
  | .inr q => Exa Z h a q.1 ∧ (∀ (i j : Nat) (f g : String × String × Value), q.2[i]? = some f → q.2[j]? = some g → RoadKit.slotOf Z q.1 f.1 f.2.1 = RoadKit.slotOf Z q.1 g.1 g.2.1 → i = j) ∧ ∀ (i : Nat) (f : String × String × Value), q.2[i]? = some f → Fld Z h a q.1 f.1 f.2.1 f.2.2
/-- the objects made since the law began, each at its own address -/
def own_Hp (Z : State) (n0 : Nat) (h : Heap) (H : own_Hs) : Prop :=
  n0 ≤ h.size ∧ (∀ (i j : Nat) (a : Addr) (o o' : own_Ob), H[i]? = some (a, o) → H[j]? = some (a, o') → i = j) ∧ ∀ (i : Nat) (a : Addr) (o : own_Ob), H[i]? = some (a, o) → n0 ≤ a ∧ a < h.size ∧ own_is Z h a o
/-- what is owed at the end -/
def own_P (Z : State) (n0 : Nat) (s : State) (below : List Frame) (R : Room) (Q : Option Value → own_Hs → Prop) (t : State) (o : Outcome) : Prop :=
  t.status = .running ∧ Ended t below o ∧ ∃ v L, o = .returned v ∧ (Fr n0 L ∧ ∃ H', own_Hp Z n0 t.heap H' ∧ Q v H') ∧ FrameEnd s o t L R.cells R.slots
def own_Go (Z : State) (n0 : Nat) (p : Program) (l : Launch) (e : Env) (R : Room) (s : State) (m : MethodId) (args : Array Value) (below : List Frame) (meth : Method) (c : Code) (P : State → Outcome → Prop)
    (k n : Nat) (H : own_Hs) (pc : Nat) (ls : List Slot) (st : List Value) : Prop :=
  ∀ T L, Stand p l e R s m args below meth c T L k n → Fr n0 L → own_Hp Z n0 T.heap H → ∃ t o, Steps p.tables e below (T.setTop (mkF m pc ⟨ls⟩ st)) t ∧ P t o
/-- G is the walk of y's body -/
def own_Wk (Z : State) (n0 : Nat) (R : Room) (y : MethodName) (bytes : ByteArray) (maxL : Nat) (ret : Option FieldType) (l : Launch) (Q : Option Value → own_Hs → Prop)
    (G : Nat → Nat → own_Hs → Nat → List Slot → List Value → Prop) : Prop :=
  ∃ p e s m args below meth c, G = own_Go Z n0 p l e R s m args below meth c (own_P Z n0 s below R Q) ∧ p.tables.exec = Jvm.exec ∧ Z.Warmed39 s.vm ∧ c.code = bytes ∧ c.maxLocals = maxL ∧
    s.vm.findClass y.cls = some m.cls ∧ meth.name = y.name ∧ meth.sig.returnType = ret ∧ meth.locks = false
/-- y's contract -/
def own_Con (l : Launch) (Z : State) (n0 : Nat) (y : MethodName) (bytes : ByteArray) (maxL : Nat) (ret : Option FieldType) (ws : List Jvm.Cond) (rm : Room) (as : Array Value) (H : own_Hs) (Q : Option Value → own_Hs → Prop) : Prop :=
  ∀ h0, own_Hp Z n0 h0 H → MetFree l y (head1 (Jvm.Cond.code y bytes maxL ret :: ws) rm) (fun a U => a = as ∧ Z.Warmed39 U.vm ∧ U.heap = h0) (fun _ _ _ _ _ => True)
    (fun _ U o U' => ∃ v L, o = .returned v ∧ (Fr n0 L ∧ ∃ H', own_Hp Z n0 U'.heap H' ∧ Q v H') ∧ FrameEnd U o U' L rm.cells rm.slots)
section OwnKit
variable {Z : State} {a0 : Array Value} {n0 : Nat} {R : Room} {y : MethodName} {bytes : ByteArray} {maxL : Nat} {ret : Option FieldType} {l : Launch} {Q : Option Value → own_Hs → Prop}
  {G : Nat → Nat → own_Hs → Nat → List Slot → List Value → Prop} {k n : Nat} {H : own_Hs} {pc q q' : Nat} {ls ls' : List Slot} {st st' : List Value}
theorem own_con {ws : List Jvm.Cond} {as : Array Value} {ls0 : List Slot} (hp : plainFor y = true) (hef : ∀ m, entryFrame m as maxL = mkF m 0 ⟨ls0⟩ []) (body : ∀ G, own_Wk Z n0 R y bytes maxL ret l Q G → G 0 0 H 0 ls0 []) :
    own_Con l Z n0 y bytes maxL ret ws R as H Q := by
  intro h0 hH
  refine MetFree.of_bodySF hp hisR ?_
  intro p e s m args below meth c s₁ Bd hml0 hP hK
  obtain ⟨ha, hZ, hh⟩ := hP
  subst ha
  have e0 : s₁.heap = h0 := by rw [← hh, Bd.state]; rfl
  have hown : s.vm.findClass y.cls = some m.cls := findClass_of_methodNamed Bd.named
  have hnm := (name_of_methodNamed Bd.named Bd.method).1
  obtain ⟨t, o, stp, P⟩ := body _ ⟨p, e, s, m, args, below, meth, c, rfl, Bd.exec, hZ, Bd.bytes, hml0, hown, hnm, Bd.returns, BodyLoose.notSynchronized Bd⟩ s₁ [] (Stand.of_body Bd) (Fr.nil n0) (by rw [e0]; exact hH)
  exact ⟨t, o, castTop (hef m) stp, P⟩
/-- a step that touches the frame alone -/
theorem own_Wk.of (C : own_Wk Z n0 R y bytes maxL ret l Q G) (K : G k n H q ls' st')
    (h : ∀ (p : Program) (e : Env) (T t : State) (m : MethodId) (below : List Frame) (c : Code), p.tables.exec = Jvm.exec → c.code = bytes → At T m c below → Steps p.tables e below (T.setTop (mkF m q ⟨ls'⟩ st')) t → Steps p.tables e below (T.setTop (mkF m pc ⟨ls⟩ st)) t) :
    G k n H pc ls st := by
  obtain ⟨p, e, s, m, args, below, meth, c, rfl, hx, hZ, hby, hml, hown, hnm, hret, hlk⟩ := C
  intro T L X N hH
  obtain ⟨t, o, stp, P⟩ := K T L X N hH
  exact ⟨t, o, h p e T t m below c hx hby X.here stp, P⟩
theorem own_Wk.more {k' n' : Nat} (C : own_Wk Z n0 R y bytes maxL ret l Q G) (hk : k ≤ k') (hn : n ≤ n') (K : G k' n' H pc ls st) : G k n H pc ls st := by
  obtain ⟨p, e, s, m, args, below, meth, c, rfl, hx, hZ, hby, hml, hown, hnm, hret, hlk⟩ := C
  exact fun T L X N hH => K T L (X.more hk hn) N hH
theorem own_Wk.iloadN (C : own_Wk Z n0 R y bytes maxL ret l Q G) {j : Fin 4} {v : Int32} (hd : decode bytes pc = .ok (.iload_n j, 1)) (hl : (Array.mk ls)[j.val]? = some (.val (.int v))) (hq : pc + 1 = q) (K : G k n H q ls (.int v :: st)) : G k n H pc ls st := by
  subst hq; exact C.of K fun _ _ _ _ _ _ _ hx hby X s => XS.iloadN X hx rfl (hb hby hd) hl s
theorem own_Wk.iload (C : own_Wk Z n0 R y bytes maxL ret l Q G) {j : Nat} {v : Int32} (hd : decode bytes pc = .ok (.iload j, 2)) (hl : (Array.mk ls)[j]? = some (.val (.int v))) (hq : pc + 2 = q) (K : G k n H q ls (.int v :: st)) : G k n H pc ls st := by
  subst hq; exact C.of K fun _ _ _ _ _ _ _ hx hby X s => XS.iload X hx rfl (hb hby hd) hl s
theorem own_Wk.lloadN (C : own_Wk Z n0 R y bytes maxL ret l Q G) {j : Fin 4} {v : Int64} (hd : decode bytes pc = .ok (.lload_n j, 1)) (hl : (Array.mk ls)[j.val]? = some (.val (.long v))) (hq : pc + 1 = q) (K : G k n H q ls (.long v :: st)) : G k n H pc ls st := by
  subst hq; exact C.of K fun _ _ _ _ _ _ _ hx hby X s => XS.lloadN X hx rfl (hb hby hd) hl s
theorem own_Wk.lload (C : own_Wk Z n0 R y bytes maxL ret l Q G) {j : Nat} {v : Int64} (hd : decode bytes pc = .ok (.lload j, 2)) (hl : (Array.mk ls)[j]? = some (.val (.long v))) (hq : pc + 2 = q) (K : G k n H q ls (.long v :: st)) : G k n H pc ls st := by
  subst hq; exact C.of K fun _ _ _ _ _ _ _ hx hby X s => XS.lload X hx rfl (hb hby hd) hl s
theorem own_Wk.aloadN (C : own_Wk Z n0 R y bytes maxL ret l Q G) {j : Fin 4} {v : Value} (hd : decode bytes pc = .ok (.aload_n j, 1)) (hl : (Array.mk ls)[j.val]? = some (.val v)) (hv : v.isRef = true) (hq : pc + 1 = q) (K : G k n H q ls (v :: st)) : G k n H pc ls st := by
  subst hq; exact C.of K fun _ _ _ _ _ _ _ hx hby X s => XS.aloadN X hx rfl (hb hby hd) hl hv s
theorem own_Wk.aload (C : own_Wk Z n0 R y bytes maxL ret l Q G) {j : Nat} {v : Value} (hd : decode bytes pc = .ok (.aload j, 2)) (hl : (Array.mk ls)[j]? = some (.val v)) (hv : v.isRef = true) (hq : pc + 2 = q) (K : G k n H q ls (v :: st)) : G k n H pc ls st := by
  subst hq; exact C.of K fun _ _ _ _ _ _ _ hx hby X s => XS.aload X hx rfl (hb hby hd) hl hv s
theorem own_Wk.istoreN (C : own_Wk Z n0 R y bytes maxL ret l Q G) {j : Fin 4} {v : Int32} (hd : decode bytes pc = .ok (.istore_n j, 1)) (hl : storeLocals (Array.mk ls) j.val (.int v) = some (Array.mk ls')) (hq : pc + 1 = q) (K : G k n H q ls' st) : G k n H pc ls (.int v :: st) := by
  subst hq; exact C.of K fun _ _ _ _ _ _ _ hx hby X s => XS.istoreN X hx rfl (hb hby hd) rfl hl s
theorem own_Wk.istore (C : own_Wk Z n0 R y bytes maxL ret l Q G) {j : Nat} {v : Int32} (hd : decode bytes pc = .ok (.istore j, 2)) (hl : storeLocals (Array.mk ls) j (.int v) = some (Array.mk ls')) (hq : pc + 2 = q) (K : G k n H q ls' st) : G k n H pc ls (.int v :: st) := by
  subst hq; exact C.of K fun _ _ _ _ _ _ _ hx hby X s => XS.istore X hx rfl (hb hby hd) rfl hl s
theorem own_Wk.lstoreN (C : own_Wk Z n0 R y bytes maxL ret l Q G) {j : Fin 4} {v : Int64} (hd : decode bytes pc = .ok (.lstore_n j, 1)) (hl : storeLocals (Array.mk ls) j.val (.long v) = some (Array.mk ls')) (hq : pc + 1 = q) (K : G k n H q ls' st) : G k n H pc ls (.long v :: st) := by
  subst hq; exact C.of K fun _ _ _ _ _ _ _ hx hby X s => XS.lstoreN X hx rfl (hb hby hd) rfl hl s
theorem own_Wk.lstore (C : own_Wk Z n0 R y bytes maxL ret l Q G) {j : Nat} {v : Int64} (hd : decode bytes pc = .ok (.lstore j, 2)) (hl : storeLocals (Array.mk ls) j (.long v) = some (Array.mk ls')) (hq : pc + 2 = q) (K : G k n H q ls' st) : G k n H pc ls (.long v :: st) := by
  subst hq; exact C.of K fun _ _ _ _ _ _ _ hx hby X s => XS.lstore X hx rfl (hb hby hd) rfl hl s
theorem own_Wk.astoreN (C : own_Wk Z n0 R y bytes maxL ret l Q G) {j : Fin 4} {v : Value} (hd : decode bytes pc = .ok (.astore_n j, 1)) (hv : v.isRef = true) (hl : storeLocals (Array.mk ls) j.val v = some (Array.mk ls')) (hq : pc + 1 = q) (K : G k n H q ls' st) : G k n H pc ls (v :: st) := by
  subst hq; exact C.of K fun _ _ _ _ _ _ _ hx hby X s => XS.astoreN X hx rfl (hb hby hd) rfl hv hl s
theorem own_Wk.astore (C : own_Wk Z n0 R y bytes maxL ret l Q G) {j : Nat} {v : Value} (hd : decode bytes pc = .ok (.astore j, 2)) (hv : v.isRef = true) (hl : storeLocals (Array.mk ls) j v = some (Array.mk ls')) (hq : pc + 2 = q) (K : G k n H q ls' st) : G k n H pc ls (v :: st) := by
  subst hq; exact C.of K fun _ _ _ _ _ _ _ hx hby X s => XS.astore X hx rfl (hb hby hd) rfl hv hl s
theorem own_Wk.iconst (C : own_Wk Z n0 R y bytes maxL ret l Q G) {i : Int} {z : Int32} (hd : decode bytes pc = .ok (.iconst i, 1)) (hz : Int32.ofInt i = z) (hq : pc + 1 = q) (K : G k n H q ls (.int z :: st)) : G k n H pc ls st := by
  subst hq hz; exact C.of K fun _ _ _ _ _ _ _ hx hby X s => XS.iconst X hx rfl (hb hby hd) s
theorem own_Wk.bipush (C : own_Wk Z n0 R y bytes maxL ret l Q G) {i : Int} {z : Int32} (hd : decode bytes pc = .ok (.bipush i, 2)) (hz : (Int8.ofInt i).toInt32 = z) (hq : pc + 2 = q) (K : G k n H q ls (.int z :: st)) : G k n H pc ls st := by
  subst hq hz; exact C.of K fun _ _ _ _ _ _ _ hx hby X s => XS.bipush X hx rfl (hb hby hd) s
theorem own_Wk.sipush (C : own_Wk Z n0 R y bytes maxL ret l Q G) {i : Int} {z : Int32} (hd : decode bytes pc = .ok (.sipush i, 3)) (hz : (Int16.ofInt i).toInt32 = z) (hq : pc + 3 = q) (K : G k n H q ls (.int z :: st)) : G k n H pc ls st := by
  subst hq hz; exact C.of K fun _ _ _ _ _ _ _ hx hby X s => XS.sipush X hx rfl (hb hby hd) s
theorem own_Wk.lconst (C : own_Wk Z n0 R y bytes maxL ret l Q G) {i : Fin 2} {z : Int64} (hd : decode bytes pc = .ok (.lconst i, 1)) (hz : Int64.ofNat i = z) (hq : pc + 1 = q) (K : G k n H q ls (.long z :: st)) : G k n H pc ls st := by
  subst hq hz; exact C.of K fun _ _ _ _ _ _ _ hx hby X s => XS.lconst X hx rfl (hb hby hd) s
theorem own_Wk.aconstNull (C : own_Wk Z n0 R y bytes maxL ret l Q G) (hd : decode bytes pc = .ok (.aconst_null, 1)) (hq : pc + 1 = q) (K : G k n H q ls (.null :: st)) : G k n H pc ls st := by
  subst hq; exact C.of K fun _ _ _ _ _ _ _ hx hby X s => XS.aconstNull X hx rfl (hb hby hd) s
theorem own_Wk.iadd (C : own_Wk Z n0 R y bytes maxL ret l Q G) {a b : Int32} (hd : decode bytes pc = .ok (.iadd, 1)) (hq : pc + 1 = q) (K : G k n H q ls (.int (a + b) :: st)) : G k n H pc ls (.int b :: .int a :: st) := by
  subst hq; exact C.of K fun _ _ _ _ _ _ _ hx hby X s => XS.iadd X hx rfl (hb hby hd) rfl s
theorem own_Wk.isub (C : own_Wk Z n0 R y bytes maxL ret l Q G) {a b : Int32} (hd : decode bytes pc = .ok (.isub, 1)) (hq : pc + 1 = q) (K : G k n H q ls (.int (a - b) :: st)) : G k n H pc ls (.int b :: .int a :: st) := by
  subst hq; exact C.of K fun _ _ _ _ _ _ _ hx hby X s => XS.isub X hx rfl (hb hby hd) rfl s
theorem own_Wk.imul (C : own_Wk Z n0 R y bytes maxL ret l Q G) {a b : Int32} (hd : decode bytes pc = .ok (.imul, 1)) (hq : pc + 1 = q) (K : G k n H q ls (.int (a * b) :: st)) : G k n H pc ls (.int b :: .int a :: st) := by
  subst hq; exact C.of K fun _ _ _ _ _ _ _ hx hby X s => XS.imul X hx rfl (hb hby hd) rfl s
theorem own_Wk.iand (C : own_Wk Z n0 R y bytes maxL ret l Q G) {a b : Int32} (hd : decode bytes pc = .ok (.iand, 1)) (hq : pc + 1 = q) (K : G k n H q ls (.int (a &&& b) :: st)) : G k n H pc ls (.int b :: .int a :: st) := by
  subst hq; exact C.of K fun _ _ _ _ _ _ _ hx hby X s => XS.iand X hx rfl (hb hby hd) rfl s
theorem own_Wk.ior (C : own_Wk Z n0 R y bytes maxL ret l Q G) {a b : Int32} (hd : decode bytes pc = .ok (.ior, 1)) (hq : pc + 1 = q) (K : G k n H q ls (.int (a ||| b) :: st)) : G k n H pc ls (.int b :: .int a :: st) := by
  subst hq; exact C.of K fun _ _ _ _ _ _ _ hx hby X s => XS.ior X hx rfl (hb hby hd) rfl s
theorem own_Wk.ixor (C : own_Wk Z n0 R y bytes maxL ret l Q G) {a b : Int32} (hd : decode bytes pc = .ok (.ixor, 1)) (hq : pc + 1 = q) (K : G k n H q ls (.int (a ^^^ b) :: st)) : G k n H pc ls (.int b :: .int a :: st) := by
  subst hq; exact C.of K fun _ _ _ _ _ _ _ hx hby X s => XS.ixor X hx rfl (hb hby hd) rfl s
theorem own_Wk.ishl (C : own_Wk Z n0 R y bytes maxL ret l Q G) {a b : Int32} (hd : decode bytes pc = .ok (.ishl, 1)) (hq : pc + 1 = q) (K : G k n H q ls (.int (a <<< (b &&& 31)) :: st)) : G k n H pc ls (.int b :: .int a :: st) := by
  subst hq; exact C.of K fun _ _ _ _ _ _ _ hx hby X s => XS.ishl X hx rfl (hb hby hd) rfl s
theorem own_Wk.ishr (C : own_Wk Z n0 R y bytes maxL ret l Q G) {a b : Int32} (hd : decode bytes pc = .ok (.ishr, 1)) (hq : pc + 1 = q) (K : G k n H q ls (.int (a >>> (b &&& 31)) :: st)) : G k n H pc ls (.int b :: .int a :: st) := by
  subst hq; exact C.of K fun _ _ _ _ _ _ _ hx hby X s => XS.ishr X hx rfl (hb hby hd) rfl s
theorem own_Wk.iushr (C : own_Wk Z n0 R y bytes maxL ret l Q G) {a b : Int32} (hd : decode bytes pc = .ok (.iushr, 1)) (hq : pc + 1 = q) (K : G k n H q ls (.int ((a.toUInt32 >>> (b &&& 31).toUInt32).toInt32) :: st)) : G k n H pc ls (.int b :: .int a :: st) := by
  subst hq; exact C.of K fun _ _ _ _ _ _ _ hx hby X s => XS.iushr X hx rfl (hb hby hd) rfl s
theorem own_Wk.ladd (C : own_Wk Z n0 R y bytes maxL ret l Q G) {a b : Int64} (hd : decode bytes pc = .ok (.ladd, 1)) (hq : pc + 1 = q) (K : G k n H q ls (.long (a + b) :: st)) : G k n H pc ls (.long b :: .long a :: st) := by
  subst hq; exact C.of K fun _ _ _ _ _ _ _ hx hby X s => XS.ladd X hx rfl (hb hby hd) rfl s
theorem own_Wk.lsub (C : own_Wk Z n0 R y bytes maxL ret l Q G) {a b : Int64} (hd : decode bytes pc = .ok (.lsub, 1)) (hq : pc + 1 = q) (K : G k n H q ls (.long (a - b) :: st)) : G k n H pc ls (.long b :: .long a :: st) := by
  subst hq; exact C.of K fun _ _ _ _ _ _ _ hx hby X s => XS.lsub X hx rfl (hb hby hd) rfl s
theorem own_Wk.lmul (C : own_Wk Z n0 R y bytes maxL ret l Q G) {a b : Int64} (hd : decode bytes pc = .ok (.lmul, 1)) (hq : pc + 1 = q) (K : G k n H q ls (.long (a * b) :: st)) : G k n H pc ls (.long b :: .long a :: st) := by
  subst hq; exact C.of K fun _ _ _ _ _ _ _ hx hby X s => XS.lmul X hx rfl (hb hby hd) rfl s
theorem own_Wk.land (C : own_Wk Z n0 R y bytes maxL ret l Q G) {a b : Int64} (hd : decode bytes pc = .ok (.land, 1)) (hq : pc + 1 = q) (K : G k n H q ls (.long (a &&& b) :: st)) : G k n H pc ls (.long b :: .long a :: st) := by
  subst hq; exact C.of K fun _ _ _ _ _ _ _ hx hby X s => XS.land X hx rfl (hb hby hd) rfl s
theorem own_Wk.lor (C : own_Wk Z n0 R y bytes maxL ret l Q G) {a b : Int64} (hd : decode bytes pc = .ok (.lor, 1)) (hq : pc + 1 = q) (K : G k n H q ls (.long (a ||| b) :: st)) : G k n H pc ls (.long b :: .long a :: st) := by
  subst hq; exact C.of K fun _ _ _ _ _ _ _ hx hby X s => XS.lor X hx rfl (hb hby hd) rfl s
theorem own_Wk.lxor (C : own_Wk Z n0 R y bytes maxL ret l Q G) {a b : Int64} (hd : decode bytes pc = .ok (.lxor, 1)) (hq : pc + 1 = q) (K : G k n H q ls (.long (a ^^^ b) :: st)) : G k n H pc ls (.long b :: .long a :: st) := by
  subst hq; exact C.of K fun _ _ _ _ _ _ _ hx hby X s => XS.lxor X hx rfl (hb hby hd) rfl s
theorem own_Wk.lshl (C : own_Wk Z n0 R y bytes maxL ret l Q G) {a : Int64} {b : Int32} (hd : decode bytes pc = .ok (.lshl, 1)) (hq : pc + 1 = q) (K : G k n H q ls (.long (a <<< (b &&& 0x3f).toInt64) :: st)) : G k n H pc ls (.int b :: .long a :: st) := by
  subst hq; exact C.of K fun _ _ _ _ _ _ _ hx hby X s => XS.lshl X hx rfl (hb hby hd) rfl s
theorem own_Wk.lshr (C : own_Wk Z n0 R y bytes maxL ret l Q G) {a : Int64} {b : Int32} (hd : decode bytes pc = .ok (.lshr, 1)) (hq : pc + 1 = q) (K : G k n H q ls (.long (a >>> (b &&& 0x3f).toInt64) :: st)) : G k n H pc ls (.int b :: .long a :: st) := by
  subst hq; exact C.of K fun _ _ _ _ _ _ _ hx hby X s => XS.lshr X hx rfl (hb hby hd) rfl s
theorem own_Wk.lushr (C : own_Wk Z n0 R y bytes maxL ret l Q G) {a : Int64} {b : Int32} (hd : decode bytes pc = .ok (.lushr, 1)) (hq : pc + 1 = q) (K : G k n H q ls (.long ((a.toUInt64 >>> (b &&& 0x3f).toInt64.toUInt64).toInt64) :: st)) : G k n H pc ls (.int b :: .long a :: st) := by
  subst hq; exact C.of K fun _ _ _ _ _ _ _ hx hby X s => XS.lushr X hx rfl (hb hby hd) rfl s
theorem own_Wk.idiv (C : own_Wk Z n0 R y bytes maxL ret l Q G) {a b : Int32} (hd : decode bytes pc = .ok (.idiv, 1)) (hy : b ≠ 0) (hq : pc + 1 = q) (K : G k n H q ls (.int (a / b) :: st)) : G k n H pc ls (.int b :: .int a :: st) := by
  subst hq; exact C.of K fun _ _ _ _ _ _ _ hx hby X s => XS.idiv X hx rfl (hb hby hd) rfl hy s
theorem own_Wk.irem (C : own_Wk Z n0 R y bytes maxL ret l Q G) {a b : Int32} (hd : decode bytes pc = .ok (.irem, 1)) (hy : b ≠ 0) (hq : pc + 1 = q) (K : G k n H q ls (.int (a % b) :: st)) : G k n H pc ls (.int b :: .int a :: st) := by
  subst hq; exact C.of K fun _ _ _ _ _ _ _ hx hby X s => XS.irem X hx rfl (hb hby hd) rfl hy (by rw [show a - a / b * b = a % b from irem_eq_mod a b]; exact s)
theorem own_Wk.ldiv (C : own_Wk Z n0 R y bytes maxL ret l Q G) {a b : Int64} (hd : decode bytes pc = .ok (.ldiv, 1)) (hy : b ≠ 0) (hq : pc + 1 = q) (K : G k n H q ls (.long (a / b) :: st)) : G k n H pc ls (.long b :: .long a :: st) := by
  subst hq; exact C.of K fun _ _ _ _ _ _ _ hx hby X s => XS.ldiv X hx rfl (hb hby hd) rfl hy s
theorem own_Wk.lrem (C : own_Wk Z n0 R y bytes maxL ret l Q G) {a b : Int64} (hd : decode bytes pc = .ok (.lrem, 1)) (hy : b ≠ 0) (hq : pc + 1 = q) (K : G k n H q ls (.long (a % b) :: st)) : G k n H pc ls (.long b :: .long a :: st) := by
  subst hq; exact C.of K fun _ _ _ _ _ _ _ hx hby X s => XS.lrem X hx rfl (hb hby hd) rfl hy (by rw [show a - a / b * b = a % b from lrem_mod a b]; exact s)
theorem own_Wk.ineg (C : own_Wk Z n0 R y bytes maxL ret l Q G) {a : Int32} (hd : decode bytes pc = .ok (.ineg, 1)) (hq : pc + 1 = q) (K : G k n H q ls (.int (-a) :: st)) : G k n H pc ls (.int a :: st) := by
  subst hq; exact C.of K fun _ _ _ _ _ _ _ hx hby X s => XS.ineg X hx rfl (hb hby hd) rfl s
theorem own_Wk.lneg (C : own_Wk Z n0 R y bytes maxL ret l Q G) {a : Int64} (hd : decode bytes pc = .ok (.lneg, 1)) (hq : pc + 1 = q) (K : G k n H q ls (.long (-a) :: st)) : G k n H pc ls (.long a :: st) := by
  subst hq; exact C.of K fun _ _ _ _ _ _ _ hx hby X s => XS.lneg X hx rfl (hb hby hd) rfl s
theorem own_Wk.i2l (C : own_Wk Z n0 R y bytes maxL ret l Q G) {a : Int32} (hd : decode bytes pc = .ok (.i2l, 1)) (hq : pc + 1 = q) (K : G k n H q ls (.long (a.toInt64) :: st)) : G k n H pc ls (.int a :: st) := by
  subst hq; exact C.of K fun _ _ _ _ _ _ _ hx hby X s => XS.i2l X hx rfl (hb hby hd) rfl s
theorem own_Wk.l2i (C : own_Wk Z n0 R y bytes maxL ret l Q G) {a : Int64} (hd : decode bytes pc = .ok (.l2i, 1)) (hq : pc + 1 = q) (K : G k n H q ls (.int (a.toInt32) :: st)) : G k n H pc ls (.long a :: st) := by
  subst hq; exact C.of K fun _ _ _ _ _ _ _ hx hby X s => XS.l2i X hx rfl (hb hby hd) rfl s
theorem own_Wk.i2b (C : own_Wk Z n0 R y bytes maxL ret l Q G) {a : Int32} (hd : decode bytes pc = .ok (.i2b, 1)) (hq : pc + 1 = q) (K : G k n H q ls (.int (a.toInt8.toInt32) :: st)) : G k n H pc ls (.int a :: st) := by
  subst hq; exact C.of K fun _ _ _ _ _ _ _ hx hby X s => XS.i2b X hx rfl (hb hby hd) rfl s
theorem own_Wk.dup (C : own_Wk Z n0 R y bytes maxL ret l Q G) {v : Value} (hd : decode bytes pc = .ok (.dup, 1)) (hc : v.category = 1) (hq : pc + 1 = q) (K : G k n H q ls (v :: v :: st)) : G k n H pc ls (v :: st) := by
  subst hq; exact C.of K fun _ _ _ _ _ _ _ hx hby X s => XS.dup X hx rfl (hb hby hd) rfl hc s
theorem own_Wk.pop (C : own_Wk Z n0 R y bytes maxL ret l Q G) {v : Value} (hd : decode bytes pc = .ok (.pop, 1)) (hc : v.category = 1) (hq : pc + 1 = q) (K : G k n H q ls st) : G k n H pc ls (v :: st) := by
  subst hq; exact C.of K fun _ _ _ _ _ _ _ hx hby X s => XS.pop X hx rfl (hb hby hd) rfl hc s
theorem own_Wk.iinc (C : own_Wk Z n0 R y bytes maxL ret l Q G) {j : Nat} {i : Int} {v z : Int32} (hd : decode bytes pc = .ok (.iinc j i, 3)) (hl : (Array.mk ls)[j]? = some (.val (.int v))) (hz : Int32.ofInt i = z) (hl' : storeLocals (Array.mk ls) j (.int (v + z)) = some (Array.mk ls')) (hq : pc + 3 = q) (K : G k n H q ls' st) : G k n H pc ls st := by
  subst hq hz; exact C.of K fun _ _ _ _ _ _ _ hx hby X s => XS.iinc X hx rfl (hb hby hd) hl hl' s
theorem own_Wk.goto (C : own_Wk Z n0 R y bytes maxL ret l Q G) {o : Int} (hd : decode bytes pc = .ok (.goto o, 3)) (ho : 0 ≤ (pc : Int) + o) (hq : ((pc : Int) + o).toNat = q) (K : G k n H q ls st) : G k n H pc ls st := by
  exact C.of K fun _ _ _ _ _ _ _ hx hby X s => XS.goto X hx rfl rfl (hb hby hd) ho hq s
theorem own_Wk.icmpLt (C : own_Wk Z n0 R y bytes maxL ret l Q G) {a b : Int32} {o : Int} (hd : decode bytes pc = .ok (.if_icmp .lt o, 3)) (ho : 0 ≤ (pc : Int) + o) (hq : ((pc : Int) + o).toNat = q) (hq' : pc + 3 = q') (T : a < b → G k n H q ls st) (F : ¬ a < b → G k n H q' ls st) : G k n H pc ls (.int b :: .int a :: st) := by
  subst hq hq'
  by_cases h : a < b
  · exact C.of (T h) fun _ _ _ _ _ _ _ hx hby X s => XS.icmpYes X hx rfl rfl (hb hby hd) rfl (tlt h).1 ho rfl s
  · exact C.of (F h) fun _ _ _ _ _ _ _ hx hby X s => XS.icmpNo X hx rfl (hb hby hd) rfl (flt h).1 s
theorem own_Wk.ifLt (C : own_Wk Z n0 R y bytes maxL ret l Q G) {a : Int32} {o : Int} (hd : decode bytes pc = .ok (.ifCond .lt o, 3)) (ho : 0 ≤ (pc : Int) + o) (hq : ((pc : Int) + o).toNat = q) (hq' : pc + 3 = q') (T : a < 0 → G k n H q ls st) (F : ¬ a < 0 → G k n H q' ls st) : G k n H pc ls (.int a :: st) := by
  subst hq hq'
  by_cases h : a < 0
  · exact C.of (T h) fun _ _ _ _ _ _ _ hx hby X s => XS.ifYes X hx rfl rfl (hb hby hd) rfl ((if0 _ _).trans (tlt h).1) ho rfl s
  · exact C.of (F h) fun _ _ _ _ _ _ _ hx hby X s => XS.ifNo X hx rfl (hb hby hd) rfl ((if0 _ _).trans (flt h).1) s
theorem own_Wk.icmpGe (C : own_Wk Z n0 R y bytes maxL ret l Q G) {a b : Int32} {o : Int} (hd : decode bytes pc = .ok (.if_icmp .ge o, 3)) (ho : 0 ≤ (pc : Int) + o) (hq : ((pc : Int) + o).toNat = q) (hq' : pc + 3 = q') (T : a < b → G k n H q' ls st) (F : ¬ a < b → G k n H q ls st) : G k n H pc ls (.int b :: .int a :: st) := by
  subst hq hq'
  by_cases h : a < b
  · exact C.of (T h) fun _ _ _ _ _ _ _ hx hby X s => XS.icmpNo X hx rfl (hb hby hd) rfl (tlt h).2.1 s
  · exact C.of (F h) fun _ _ _ _ _ _ _ hx hby X s => XS.icmpYes X hx rfl rfl (hb hby hd) rfl (flt h).2.1 ho rfl s
theorem own_Wk.ifGe (C : own_Wk Z n0 R y bytes maxL ret l Q G) {a : Int32} {o : Int} (hd : decode bytes pc = .ok (.ifCond .ge o, 3)) (ho : 0 ≤ (pc : Int) + o) (hq : ((pc : Int) + o).toNat = q) (hq' : pc + 3 = q') (T : a < 0 → G k n H q' ls st) (F : ¬ a < 0 → G k n H q ls st) : G k n H pc ls (.int a :: st) := by
  subst hq hq'
  by_cases h : a < 0
  · exact C.of (T h) fun _ _ _ _ _ _ _ hx hby X s => XS.ifNo X hx rfl (hb hby hd) rfl ((if0 _ _).trans (tlt h).2.1) s
  · exact C.of (F h) fun _ _ _ _ _ _ _ hx hby X s => XS.ifYes X hx rfl rfl (hb hby hd) rfl ((if0 _ _).trans (flt h).2.1) ho rfl s
theorem own_Wk.icmpGt (C : own_Wk Z n0 R y bytes maxL ret l Q G) {a b : Int32} {o : Int} (hd : decode bytes pc = .ok (.if_icmp .gt o, 3)) (ho : 0 ≤ (pc : Int) + o) (hq : ((pc : Int) + o).toNat = q) (hq' : pc + 3 = q') (T : b < a → G k n H q ls st) (F : ¬ b < a → G k n H q' ls st) : G k n H pc ls (.int b :: .int a :: st) := by
  subst hq hq'
  by_cases h : b < a
  · exact C.of (T h) fun _ _ _ _ _ _ _ hx hby X s => XS.icmpYes X hx rfl rfl (hb hby hd) rfl (tlt h).2.2.1 ho rfl s
  · exact C.of (F h) fun _ _ _ _ _ _ _ hx hby X s => XS.icmpNo X hx rfl (hb hby hd) rfl (flt h).2.2.1 s
theorem own_Wk.ifGt (C : own_Wk Z n0 R y bytes maxL ret l Q G) {a : Int32} {o : Int} (hd : decode bytes pc = .ok (.ifCond .gt o, 3)) (ho : 0 ≤ (pc : Int) + o) (hq : ((pc : Int) + o).toNat = q) (hq' : pc + 3 = q') (T : 0 < a → G k n H q ls st) (F : ¬ 0 < a → G k n H q' ls st) : G k n H pc ls (.int a :: st) := by
  subst hq hq'
  by_cases h : 0 < a
  · exact C.of (T h) fun _ _ _ _ _ _ _ hx hby X s => XS.ifYes X hx rfl rfl (hb hby hd) rfl ((if0 _ _).trans (tlt h).2.2.1) ho rfl s
  · exact C.of (F h) fun _ _ _ _ _ _ _ hx hby X s => XS.ifNo X hx rfl (hb hby hd) rfl ((if0 _ _).trans (flt h).2.2.1) s
theorem own_Wk.icmpLe (C : own_Wk Z n0 R y bytes maxL ret l Q G) {a b : Int32} {o : Int} (hd : decode bytes pc = .ok (.if_icmp .le o, 3)) (ho : 0 ≤ (pc : Int) + o) (hq : ((pc : Int) + o).toNat = q) (hq' : pc + 3 = q') (T : b < a → G k n H q' ls st) (F : ¬ b < a → G k n H q ls st) : G k n H pc ls (.int b :: .int a :: st) := by
  subst hq hq'
  by_cases h : b < a
  · exact C.of (T h) fun _ _ _ _ _ _ _ hx hby X s => XS.icmpNo X hx rfl (hb hby hd) rfl (tlt h).2.2.2 s
  · exact C.of (F h) fun _ _ _ _ _ _ _ hx hby X s => XS.icmpYes X hx rfl rfl (hb hby hd) rfl (flt h).2.2.2 ho rfl s
theorem own_Wk.ifLe (C : own_Wk Z n0 R y bytes maxL ret l Q G) {a : Int32} {o : Int} (hd : decode bytes pc = .ok (.ifCond .le o, 3)) (ho : 0 ≤ (pc : Int) + o) (hq : ((pc : Int) + o).toNat = q) (hq' : pc + 3 = q') (T : 0 < a → G k n H q' ls st) (F : ¬ 0 < a → G k n H q ls st) : G k n H pc ls (.int a :: st) := by
  subst hq hq'
  by_cases h : 0 < a
  · exact C.of (T h) fun _ _ _ _ _ _ _ hx hby X s => XS.ifNo X hx rfl (hb hby hd) rfl ((if0 _ _).trans (tlt h).2.2.2) s
  · exact C.of (F h) fun _ _ _ _ _ _ _ hx hby X s => XS.ifYes X hx rfl rfl (hb hby hd) rfl ((if0 _ _).trans (flt h).2.2.2) ho rfl s
theorem own_Wk.icmpEq (C : own_Wk Z n0 R y bytes maxL ret l Q G) {a b : Int32} {o : Int} (hd : decode bytes pc = .ok (.if_icmp .eq o, 3)) (ho : 0 ≤ (pc : Int) + o) (hq : ((pc : Int) + o).toNat = q) (hq' : pc + 3 = q') (T : a = b → G k n H q ls st) (F : ¬ a = b → G k n H q' ls st) : G k n H pc ls (.int b :: .int a :: st) := by
  subst hq hq'
  by_cases h : a = b
  · exact C.of (T h) fun _ _ _ _ _ _ _ hx hby X s => XS.icmpYes X hx rfl rfl (hb hby hd) rfl (teq h).1 ho rfl s
  · exact C.of (F h) fun _ _ _ _ _ _ _ hx hby X s => XS.icmpNo X hx rfl (hb hby hd) rfl (feq h).1 s
theorem own_Wk.ifEq (C : own_Wk Z n0 R y bytes maxL ret l Q G) {a : Int32} {o : Int} (hd : decode bytes pc = .ok (.ifCond .eq o, 3)) (ho : 0 ≤ (pc : Int) + o) (hq : ((pc : Int) + o).toNat = q) (hq' : pc + 3 = q') (T : a = 0 → G k n H q ls st) (F : ¬ a = 0 → G k n H q' ls st) : G k n H pc ls (.int a :: st) := by
  subst hq hq'
  by_cases h : a = 0
  · exact C.of (T h) fun _ _ _ _ _ _ _ hx hby X s => XS.ifYes X hx rfl rfl (hb hby hd) rfl ((if0 _ _).trans (teq h).1) ho rfl s
  · exact C.of (F h) fun _ _ _ _ _ _ _ hx hby X s => XS.ifNo X hx rfl (hb hby hd) rfl ((if0 _ _).trans (feq h).1) s
theorem own_Wk.icmpNe (C : own_Wk Z n0 R y bytes maxL ret l Q G) {a b : Int32} {o : Int} (hd : decode bytes pc = .ok (.if_icmp .ne o, 3)) (ho : 0 ≤ (pc : Int) + o) (hq : ((pc : Int) + o).toNat = q) (hq' : pc + 3 = q') (T : a = b → G k n H q' ls st) (F : ¬ a = b → G k n H q ls st) : G k n H pc ls (.int b :: .int a :: st) := by
  subst hq hq'
  by_cases h : a = b
  · exact C.of (T h) fun _ _ _ _ _ _ _ hx hby X s => XS.icmpNo X hx rfl (hb hby hd) rfl (teq h).2 s
  · exact C.of (F h) fun _ _ _ _ _ _ _ hx hby X s => XS.icmpYes X hx rfl rfl (hb hby hd) rfl (feq h).2 ho rfl s
theorem own_Wk.ifNe (C : own_Wk Z n0 R y bytes maxL ret l Q G) {a : Int32} {o : Int} (hd : decode bytes pc = .ok (.ifCond .ne o, 3)) (ho : 0 ≤ (pc : Int) + o) (hq : ((pc : Int) + o).toNat = q) (hq' : pc + 3 = q') (T : a = 0 → G k n H q' ls st) (F : ¬ a = 0 → G k n H q ls st) : G k n H pc ls (.int a :: st) := by
  subst hq hq'
  by_cases h : a = 0
  · exact C.of (T h) fun _ _ _ _ _ _ _ hx hby X s => XS.ifNo X hx rfl (hb hby hd) rfl ((if0 _ _).trans (teq h).2) s
  · exact C.of (F h) fun _ _ _ _ _ _ _ hx hby X s => XS.ifYes X hx rfl rfl (hb hby hd) rfl ((if0 _ _).trans (feq h).2) ho rfl s
theorem own_Wk.lcmp0 (C : own_Wk Z n0 R y bytes maxL ret l Q G) {a b : Int64} (hd : decode bytes pc = .ok (.lcmp, 1)) (hq : pc + 1 = q) (K : G k n H q ls (.int (lcmpW a b) :: st)) : G k n H pc ls (.long b :: .long a :: st) := by
  subst hq; exact C.of K fun _ _ _ _ _ _ _ hx hby X s => XS.lcmp X hx rfl (hb hby hd) rfl s
theorem own_Wk.lcmpLt (C : own_Wk Z n0 R y bytes maxL ret l Q G) {a b : Int64} {o : Int} (hd : decode bytes pc = .ok (.lcmp, 1)) {q1 : Nat} (h1 : pc + 1 = q1) (hd1 : decode bytes q1 = .ok (.ifCond .lt o, 3)) (ho : 0 ≤ (q1 : Int) + o) (hq : ((q1 : Int) + o).toNat = q) (hq' : q1 + 3 = q') (T : a < b → G k n H q ls st) (F : ¬ a < b → G k n H q' ls st) : G k n H pc ls (.long b :: .long a :: st) :=
  C.lcmp0 hd h1 (C.ifLt hd1 ho hq hq' (fun h => T ((lw_lt a b).mp h)) (fun h => F fun h' => h ((lw_lt a b).mpr h')))
theorem own_Wk.lcmpGe (C : own_Wk Z n0 R y bytes maxL ret l Q G) {a b : Int64} {o : Int} (hd : decode bytes pc = .ok (.lcmp, 1)) {q1 : Nat} (h1 : pc + 1 = q1) (hd1 : decode bytes q1 = .ok (.ifCond .ge o, 3)) (ho : 0 ≤ (q1 : Int) + o) (hq : ((q1 : Int) + o).toNat = q) (hq' : q1 + 3 = q') (T : a < b → G k n H q' ls st) (F : ¬ a < b → G k n H q ls st) : G k n H pc ls (.long b :: .long a :: st) :=
  C.lcmp0 hd h1 (C.ifGe hd1 ho hq hq' (fun h => T ((lw_lt a b).mp h)) (fun h => F fun h' => h ((lw_lt a b).mpr h')))
theorem own_Wk.lcmpGt (C : own_Wk Z n0 R y bytes maxL ret l Q G) {a b : Int64} {o : Int} (hd : decode bytes pc = .ok (.lcmp, 1)) {q1 : Nat} (h1 : pc + 1 = q1) (hd1 : decode bytes q1 = .ok (.ifCond .gt o, 3)) (ho : 0 ≤ (q1 : Int) + o) (hq : ((q1 : Int) + o).toNat = q) (hq' : q1 + 3 = q') (T : b < a → G k n H q ls st) (F : ¬ b < a → G k n H q' ls st) : G k n H pc ls (.long b :: .long a :: st) :=
  C.lcmp0 hd h1 (C.ifGt hd1 ho hq hq' (fun h => T ((lw_gt a b).mp h)) (fun h => F fun h' => h ((lw_gt a b).mpr h')))
theorem own_Wk.lcmpLe (C : own_Wk Z n0 R y bytes maxL ret l Q G) {a b : Int64} {o : Int} (hd : decode bytes pc = .ok (.lcmp, 1)) {q1 : Nat} (h1 : pc + 1 = q1) (hd1 : decode bytes q1 = .ok (.ifCond .le o, 3)) (ho : 0 ≤ (q1 : Int) + o) (hq : ((q1 : Int) + o).toNat = q) (hq' : q1 + 3 = q') (T : b < a → G k n H q' ls st) (F : ¬ b < a → G k n H q ls st) : G k n H pc ls (.long b :: .long a :: st) :=
  C.lcmp0 hd h1 (C.ifLe hd1 ho hq hq' (fun h => T ((lw_gt a b).mp h)) (fun h => F fun h' => h ((lw_gt a b).mpr h')))
theorem own_Wk.lcmpEq (C : own_Wk Z n0 R y bytes maxL ret l Q G) {a b : Int64} {o : Int} (hd : decode bytes pc = .ok (.lcmp, 1)) {q1 : Nat} (h1 : pc + 1 = q1) (hd1 : decode bytes q1 = .ok (.ifCond .eq o, 3)) (ho : 0 ≤ (q1 : Int) + o) (hq : ((q1 : Int) + o).toNat = q) (hq' : q1 + 3 = q') (T : a = b → G k n H q ls st) (F : ¬ a = b → G k n H q' ls st) : G k n H pc ls (.long b :: .long a :: st) :=
  C.lcmp0 hd h1 (C.ifEq hd1 ho hq hq' (fun h => T ((lw_eq a b).mp h)) (fun h => F fun h' => h ((lw_eq a b).mpr h')))
theorem own_Wk.lcmpNe (C : own_Wk Z n0 R y bytes maxL ret l Q G) {a b : Int64} {o : Int} (hd : decode bytes pc = .ok (.lcmp, 1)) {q1 : Nat} (h1 : pc + 1 = q1) (hd1 : decode bytes q1 = .ok (.ifCond .ne o, 3)) (ho : 0 ≤ (q1 : Int) + o) (hq : ((q1 : Int) + o).toNat = q) (hq' : q1 + 3 = q') (T : a = b → G k n H q' ls st) (F : ¬ a = b → G k n H q ls st) : G k n H pc ls (.long b :: .long a :: st) :=
  C.lcmp0 hd h1 (C.ifNe hd1 ho hq hq' (fun h => T ((lw_eq a b).mp h)) (fun h => F fun h' => h ((lw_eq a b).mpr h')))
theorem own_Wk.nonnullY (C : own_Wk Z n0 R y bytes maxL ret l Q G) {b : Addr} {o : Int} (hd : decode bytes pc = .ok (.ifnonnull o, 3)) (ho : 0 ≤ (pc : Int) + o) (hq : ((pc : Int) + o).toNat = q) (K : G k n H q ls st) : G k n H pc ls (.ref b :: st) := by
  exact C.of K fun _ _ _ _ _ _ _ hx hby X s => XS.ifnonnullYes X hx rfl rfl (hb hby hd) rfl ho hq s
theorem own_Wk.nonnullN (C : own_Wk Z n0 R y bytes maxL ret l Q G) {o : Int} (hd : decode bytes pc = .ok (.ifnonnull o, 3)) (hq : pc + 3 = q) (K : G k n H q ls st) : G k n H pc ls (.null :: st) := by
  subst hq; exact C.of K fun _ _ _ _ _ _ _ hx hby X s => XS.ifnonnullNo X hx rfl (hb hby hd) rfl s
theorem own_Wk.ldc (C : own_Wk Z n0 R y bytes maxL ret l Q G) {i : Nat} {v : Int32} (hd : decode bytes pc = .ok (.ldc i, 2)) (w : (Jvm.Cond.constant y.cls i v).before a0 Z = true) (hq : pc + 2 = q) (K : G k n H q ls (.int v :: st)) : G k n H pc ls st := by
  subst hq
  obtain ⟨p, e, s, m, args, below, meth, c, rfl, hx, hZ, hby, hml, hown, hnm, hret, hlk⟩ := C
  intro T L X N hH
  obtain ⟨t, o, stp, P⟩ := K T L X N hH
  exact ⟨t, o, X.ldcInt hx hown (mvT hZ w) (g := mkF m pc ⟨ls⟩ st) rfl (hb hby hd) _ stp, P⟩
theorem own_Wk.ldc2 (C : own_Wk Z n0 R y bytes maxL ret l Q G) {i : Nat} {v : Int64} (hd : decode bytes pc = .ok (.ldc2_w i, 3)) (w : (Jvm.Cond.constantLong y.cls i v).before a0 Z = true) (hq : pc + 3 = q) (K : G k n H q ls (.long v :: st)) : G k n H pc ls st := by
  subst hq
  obtain ⟨p, e, s, m, args, below, meth, c, rfl, hx, hZ, hby, hml, hown, hnm, hret, hlk⟩ := C
  intro T L X N hH
  obtain ⟨t, o, stp, P⟩ := K T L X N hH
  exact ⟨t, o, X.ldc2Long hx hown (mvT hZ w) (g := mkF m pc ⟨ls⟩ st) rfl (hb hby hd) _ stp, P⟩
-- returns
theorem own_Wk.retI {z : Int32} (C : own_Wk Z n0 R y bytes maxL (some .int) l Q G) (hd : decode bytes pc = .ok (.ireturn, 1)) (hk : k ≤ R.cells) (hn : n ≤ R.slots) (hQ : Q (some (.int z)) H) : G k n H pc ls (.int z :: st) := by
  obtain ⟨p, e, s, m, args, below, meth, c, rfl, hx, hZ, hby, hml, hown, hnm, hret, hlk⟩ := C
  intro T L X N hH
  obtain ⟨fs, hr, hrun, hended, hW, hsame⟩ := X.leave (v := some (.int z)) (fun h => by rw [hret] at h; cases h) hlk
  exact ⟨_, _, retOut X hx hret rfl (Or.inl ⟨rfl, Or.inl rfl, z, rfl⟩) (hb hby hd) hr, hrun, hended, _, _, rfl, ⟨N, H, hH, hQ⟩, ⟨_, rfl⟩, hW, hsame.mono hk hn⟩
theorem own_Wk.retJ {z : Int64} (C : own_Wk Z n0 R y bytes maxL (some .long) l Q G) (hd : decode bytes pc = .ok (.lreturn, 1)) (hk : k ≤ R.cells) (hn : n ≤ R.slots) (hQ : Q (some (.long z)) H) : G k n H pc ls (.long z :: st) := by
  obtain ⟨p, e, s, m, args, below, meth, c, rfl, hx, hZ, hby, hml, hown, hnm, hret, hlk⟩ := C
  intro T L X N hH
  obtain ⟨fs, hr, hrun, hended, hW, hsame⟩ := X.leave (v := some (.long z)) (fun h => by rw [hret] at h; cases h) hlk
  exact ⟨_, _, retOut X hx hret rfl (Or.inr (Or.inl ⟨rfl, rfl, z, rfl⟩)) (hb hby hd) hr, hrun, hended, _, _, rfl, ⟨N, H, hH, hQ⟩, ⟨_, rfl⟩, hW, hsame.mono hk hn⟩
theorem own_Wk.retA {t : FieldType} {v : Value} (C : own_Wk Z n0 R y bytes maxL (some t) l Q G) (ht : t.isReference = true) (hn' : narrow t v = v) (hv : v.isRef = true) (hd : decode bytes pc = .ok (.areturn, 1)) (hk : k ≤ R.cells) (hn : n ≤ R.slots) (hQ : Q (some v) H) : G k n H pc ls (v :: st) := by
  obtain ⟨p, e, s, m, args, below, meth, c, rfl, hx, hZ, hby, hml, hown, hnm, hret, hlk⟩ := C
  intro T L X N hH
  obtain ⟨fs, hr, hrun, hended, hW, hsame⟩ := X.leave (v := some v) (fun h => by rw [hret] at h; cases h) hlk
  exact ⟨_, _, retOut X hx hret hn' (Or.inr (Or.inr (Or.inr (Or.inr ⟨rfl, ht, hv⟩)))) (hb hby hd) hr, hrun, hended, _, _, rfl, ⟨N, H, hH, hQ⟩, ⟨_, rfl⟩, hW, hsame.mono hk hn⟩
theorem own_Wk.retB {t : FieldType} {z : Int32} (C : own_Wk Z n0 R y bytes maxL (some t) l Q G) (ht : t = .boolean ∨ t = .byte ∨ t = .char ∨ t = .short) (hd : decode bytes pc = .ok (.ireturn, 1)) (hk : k ≤ R.cells) (hn : n ≤ R.slots) (hQ : Q (some (.int (nar t z))) H) : G k n H pc ls (.int z :: st) := by
  obtain ⟨p, e, s, m, args, below, meth, c, rfl, hx, hZ, hby, hml, hown, hnm, hret, hlk⟩ := C
  intro T L X N hH
  obtain ⟨fs, hr, hrun, hended, hW, hsame⟩ := X.leave (v := some (.int (nar t z))) (fun h => by rw [hret] at h; cases h) hlk
  exact ⟨_, _, retN X hx hret ht (hb hby hd) hr, hrun, hended, _, _, rfl, ⟨N, H, hH, hQ⟩, ⟨_, rfl⟩, hW, hsame.mono hk hn⟩
theorem own_Wk.retV (C : own_Wk Z n0 R y bytes maxL none l Q G) (hd : decode bytes pc = .ok (.return_, 1)) (hk : k ≤ R.cells) (hn : n ≤ R.slots) (hQ : Q none H) : G k n H pc ls [] := by
  obtain ⟨p, e, s, m, args, below, meth, c, rfl, hx, hZ, hby, hml, hown, hnm, hret, hlk⟩ := C
  intro T L X N hH
  obtain ⟨fs, hr, hrun, hended, hW, hsame⟩ := X.leave (v := none) (fun _ => rfl) hlk
  exact ⟨_, _, X.returnOut hx hret (hb hby hd) hr, hrun, hended, _, _, rfl, ⟨N, H, hH, hQ⟩, ⟨_, rfl⟩, hW, hsame.mono hk hn⟩
-- the abstract heap
theorem own_is_ext {h h' : Heap} {a : Addr} {o : own_Ob} (E : Ext h h') (F : own_is Z h a o) : own_is Z h' a o := by
  match o, F with
  | .inl q, F => obtain ⟨c, A, r⟩ := F; exact ⟨c, A.ext E, r⟩
  | .inr q, F => exact ⟨F.1.ext E, F.2.1, fun i f hf => (F.2.2 i f hf).ext E⟩
theorem own_is_ne {h h' : Heap} {a b : Addr} {sl : Nat} {v : Value} {o : own_Ob} (W : Wr h h' a sl v) (hne : b ≠ a) (F : own_is Z h b o) : own_is Z h' b o := by
  match o, F with
  | .inl q, F => obtain ⟨c, A, r⟩ := F; exact ⟨c, A.other W hne, r⟩
  | .inr q, F => exact ⟨F.1.wr W, F.2.1, fun i f hf => (F.2.2 i f hf).other W (Or.inl hne)⟩
theorem own_Hp_new {h h' : Heap} {o : own_Ob} (P : own_Hp Z n0 h H) (E : Ext h h') (hlt : h.size < h'.size) (F : own_is Z h' h.size o) : own_Hp Z n0 h' (H ++ [(h.size, o)]) := by
  obtain ⟨p1, p2, p3⟩ := P
  have key : ∀ (i : Nat) (a : Addr) (o' : own_Ob), (H ++ [(h.size, o)])[i]? = some (a, o') → (H[i]? = some (a, o') ∧ i < H.length) ∨ (i = H.length ∧ a = h.size ∧ o' = o) := by
    intro i a o' hi
    by_cases q : i < H.length
    · rw [List.getElem?_append_left q] at hi; exact Or.inl ⟨hi, q⟩
    · rw [List.getElem?_append_right (by omega)] at hi
      obtain ⟨j, hj⟩ : ∃ j, j = i - H.length := ⟨_, rfl⟩
      rw [← hj] at hi
      match j, hj, hi with
      | 0, hj, hi => exact Or.inr ⟨by omega, by simpa using (Prod.mk.inj (Option.some.inj hi)).1.symm, by simpa using (Prod.mk.inj (Option.some.inj hi)).2.symm⟩
      | j + 1, _, hi => simp at hi
  refine ⟨Nat.le_trans p1 E.1, fun i j a o1 o2 hi hj => ?_, fun i a o' hi => ?_⟩
  · rcases key i a o1 hi with ⟨h1, l1⟩ | ⟨h1, h2, -⟩ <;> rcases key j a o2 hj with ⟨g1, l2⟩ | ⟨g1, g2, -⟩
    · exact p2 i j a o1 o2 h1 g1
    · exact absurd (p3 i a o1 h1).2.1 (by rw [g2]; exact Nat.lt_irrefl _)
    · exact absurd (p3 j a o2 g1).2.1 (by rw [h2]; exact Nat.lt_irrefl _)
    · rw [h1, g1]
  · rcases key i a o' hi with ⟨h1, -⟩ | ⟨-, rfl, rfl⟩
    · obtain ⟨r1, r2, r3⟩ := p3 i a o' h1
      exact ⟨r1, Nat.lt_of_lt_of_le r2 E.1, own_is_ext E r3⟩
    · exact ⟨p1, hlt, F⟩
theorem own_Hp_set {h h' : Heap} {i : Nat} {a : Addr} {o o' : own_Ob} {sl : Nat} {v : Value} (P : own_Hp Z n0 h H) (hi : H[i]? = some (a, o)) (W : Wr h h' a sl v) (F : own_is Z h' a o') : own_Hp Z n0 h' (H.set i (a, o')) := by
  obtain ⟨p1, p2, p3⟩ := P
  have key : ∀ (j : Nat) (b : Addr) (ob : own_Ob), (H.set i (a, o'))[j]? = some (b, ob) → (j = i ∧ b = a ∧ ob = o') ∨ (j ≠ i ∧ H[j]? = some (b, ob)) := by
    intro j b ob hj
    rw [List.getElem?_set] at hj
    by_cases q : i = j
    · subst q
      rw [if_pos rfl] at hj
      split at hj
      · exact Or.inl ⟨rfl, (Prod.mk.inj (Option.some.inj hj)).1.symm, (Prod.mk.inj (Option.some.inj hj)).2.symm⟩
      · cases hj
    · rw [if_neg q] at hj; exact Or.inr ⟨fun z => q z.symm, hj⟩
  refine ⟨by rw [W.size]; exact p1, fun j j' b o1 o2 hj hj' => ?_, fun j b ob hj => ?_⟩
  · rcases key j b o1 hj with ⟨h1, h2, -⟩ | ⟨h1, h2⟩ <;> rcases key j' b o2 hj' with ⟨g1, g2, -⟩ | ⟨g1, g2⟩
    · rw [h1, g1]
    · subst h2; rw [h1]; exact p2 i j' _ o o2 hi g2
    · subst g2; rw [g1]; exact (p2 i j _ o o1 hi h2).symm
    · exact p2 j j' b o1 o2 h2 g2
  · rw [W.size]
    rcases key j b ob hj with ⟨-, rfl, rfl⟩ | ⟨h1, h2⟩
    · obtain ⟨r1, r2, -⟩ := p3 i _ _ hi; exact ⟨r1, r2, F⟩
    · obtain ⟨r1, r2, r3⟩ := p3 j b ob h2
      exact ⟨r1, r2, own_is_ne W (fun z => h1 (by subst z; exact (p2 i j _ o ob hi h2).symm)) r3⟩
-- arrays
theorem own_Wk.alen (C : own_Wk Z n0 R y bytes maxL ret l Q G) (i : Nat) {a : Addr} {ty : FieldType} {vs : List Value} {z : Int32} (hd : decode bytes pc = .ok (.arraylength, 1)) (hi : H[i]? = some (a, .inl (ty, vs))) (hz : vs.length.toInt32 = z) (hq : pc + 1 = q) (K : G k n H q ls (.int z :: st)) : G k n H pc ls (.ref a :: st) := by
  subst hq hz
  obtain ⟨p, e, s, m, args, below, meth, c, rfl, hx, hZ, hby, hml, hown, hnm, hret, hlk⟩ := C
  intro T L X N hH
  obtain ⟨-, -, cl, A, hc⟩ := hH.2.2 i _ _ hi
  obtain ⟨t, o, stp, P⟩ := K T L X N hH
  have hc' : cl.slots.toList = vs := hc
  refine ⟨t, o, X.arraylength hx (cell := cl) A.1 (State.isArrayOf_alike hZ.alike A.2.1) (g := mkF m pc ⟨ls⟩ (.ref a :: st)) rfl rfl (hb hby hd) _ ?_, P⟩
  rw [show cl.slots.size = vs.length by rw [← hc', Array.length_toList]]
  exact stp
theorem own_at {cl : Cell} {vs : List Value} {j : Int32} {v : Value} (hc : cl.slots.toList = vs) (h0 : ¬ j < 0) (hv : vs[j.toNatClampNeg]? = some v) : ¬ (j < 0 ∨ cl.slots.size ≤ j.toNatClampNeg) ∧ cl.slots[j.toNatClampNeg]? = some v := by
  rw [← hc, Array.getElem?_toList] at hv
  exact ⟨fun z => z.elim h0 fun z => by have := (Array.getElem?_eq_some_iff.mp hv).1; omega, hv⟩
theorem own_in {cl : Cell} {vs : List Value} {j : Int32} (hc : cl.slots.toList = vs) (h0 : ¬ j < 0) (hj : j.toNatClampNeg < vs.length) : ¬ (j < 0 ∨ cl.slots.size ≤ j.toNatClampNeg) :=
  fun z => z.elim h0 fun z => by rw [← hc, Array.length_toList] at hj; omega
theorem own_Wk.iaload (C : own_Wk Z n0 R y bytes maxL ret l Q G) (i : Nat) {a : Addr} {vs : List Value} {j : Int32} {v : Value} (hd : decode bytes pc = .ok (.iaload, 1)) (hi : H[i]? = some (a, .inl (.int, vs))) (h0 : ¬ j < 0) (hv : vs[j.toNatClampNeg]? = some v) (hq : pc + 1 = q) (K : G k n H q ls (v :: st)) : G k n H pc ls (.int j :: .ref a :: st) := by
  subst hq
  obtain ⟨p, e, s, m, args, below, meth, c, rfl, hx, hZ, hby, hml, hown, hnm, hret, hlk⟩ := C
  intro T L X N hH
  obtain ⟨-, -, cl, A, hc⟩ := hH.2.2 i _ _ hi
  obtain ⟨t, o, stp, P⟩ := K T L X N hH
  have q2 := own_at hc h0 hv
  exact ⟨t, o, X.iaload hx (j := j) (v := v) A.1 (State.isArrayOf_alike hZ.alike A.2.1) A.2.2 q2.1 q2.2 (g := mkF m pc ⟨ls⟩ (.int j :: .ref a :: st)) rfl rfl (hb hby hd) _ stp, P⟩
theorem own_Wk.laload (C : own_Wk Z n0 R y bytes maxL ret l Q G) (i : Nat) {a : Addr} {vs : List Value} {j : Int32} {v : Value} (hd : decode bytes pc = .ok (.laload, 1)) (hi : H[i]? = some (a, .inl (.long, vs))) (h0 : ¬ j < 0) (hv : vs[j.toNatClampNeg]? = some v) (hq : pc + 1 = q) (K : G k n H q ls (v :: st)) : G k n H pc ls (.int j :: .ref a :: st) := by
  subst hq
  obtain ⟨p, e, s, m, args, below, meth, c, rfl, hx, hZ, hby, hml, hown, hnm, hret, hlk⟩ := C
  intro T L X N hH
  obtain ⟨-, -, cl, A, hc⟩ := hH.2.2 i _ _ hi
  obtain ⟨t, o, stp, P⟩ := K T L X N hH
  have q2 := own_at hc h0 hv
  exact ⟨t, o, X.laload hx (j := j) (v := v) A.1 (State.isArrayOf_alike hZ.alike A.2.1) A.2.2 q2.1 q2.2 (g := mkF m pc ⟨ls⟩ (.int j :: .ref a :: st)) rfl rfl (hb hby hd) _ stp, P⟩
theorem own_Wk.baload (C : own_Wk Z n0 R y bytes maxL ret l Q G) (i : Nat) {a : Addr} {vs : List Value} {j : Int32} {v : Value} (hd : decode bytes pc = .ok (.baload, 1)) (hi : H[i]? = some (a, .inl (.byte, vs))) (h0 : ¬ j < 0) (hv : vs[j.toNatClampNeg]? = some v) (hq : pc + 1 = q) (K : G k n H q ls (v :: st)) : G k n H pc ls (.int j :: .ref a :: st) := by
  subst hq
  obtain ⟨p, e, s, m, args, below, meth, c, rfl, hx, hZ, hby, hml, hown, hnm, hret, hlk⟩ := C
  intro T L X N hH
  obtain ⟨-, -, cl, A, hc⟩ := hH.2.2 i _ _ hi
  obtain ⟨t, o, stp, P⟩ := K T L X N hH
  have q2 := own_at hc h0 hv
  exact ⟨t, o, X.baloadBytes hx (j := j) (v := v) A.1 (State.isArrayOf_alike hZ.alike A.2.1) A.2.2 q2.1 q2.2 (g := mkF m pc ⟨ls⟩ (.int j :: .ref a :: st)) rfl rfl (hb hby hd) _ stp, P⟩
theorem own_arr_set {h h' : Heap} {a : Addr} {cl : Cell} {ty : FieldType} {vs : List Value} {j : Nat} {v : Value} (A : Arr Z h a cl ty) (hc : cl.slots.toList = vs) (W : Wr h h' a j v) : own_is Z h' a (.inl (ty, vs.set j v)) := by
  refine ⟨cl.setSlot j v, A.same W, ?_⟩
  show (cl.slots.setIfInBounds j v).toList = vs.set j v
  rw [Array.toList_setIfInBounds, hc]
theorem own_Wk.iastore (C : own_Wk Z n0 R y bytes maxL ret l Q G) (i : Nat) {a : Addr} {vs : List Value} {j x : Int32} {H' : own_Hs} (hd : decode bytes pc = .ok (.iastore, 1)) (hi : H[i]? = some (a, .inl (.int, vs))) (h0 : ¬ j < 0) (hj : j.toNatClampNeg < vs.length) (hH' : H.set i (a, .inl (.int, vs.set j.toNatClampNeg (.int x))) = H') (hq : pc + 1 = q) (K : G k n H' q ls st) : G k n H pc ls (.int x :: .int j :: .ref a :: st) := by
  subst hq hH'
  obtain ⟨p, e, s, m, args, below, meth, c, rfl, hx, hZ, hby, hml, hown, hnm, hret, hlk⟩ := C
  intro T L X N hH
  obtain ⟨g1, -, cl, A, hc⟩ := hH.2.2 i _ _ hi
  obtain ⟨T', h', X', e', W, stp⟩ := stI X hx hZ rfl A (own_in hc h0 hj) (g := mkF m pc ⟨ls⟩ (.int x :: .int j :: .ref a :: st)) rfl rfl (hb hby hd)
  obtain ⟨t, o, st2, P⟩ := K T' _ X' (Fr.snoc X' N g1) (by rw [e']; exact own_Hp_set hH hi W (own_arr_set A hc W))
  exact ⟨t, o, stp _ st2, P⟩
theorem own_Wk.lastore (C : own_Wk Z n0 R y bytes maxL ret l Q G) (i : Nat) {a : Addr} {vs : List Value} {j : Int32} {x : Int64} {H' : own_Hs} (hd : decode bytes pc = .ok (.lastore, 1)) (hi : H[i]? = some (a, .inl (.long, vs))) (h0 : ¬ j < 0) (hj : j.toNatClampNeg < vs.length) (hH' : H.set i (a, .inl (.long, vs.set j.toNatClampNeg (.long x))) = H') (hq : pc + 1 = q) (K : G k n H' q ls st) : G k n H pc ls (.long x :: .int j :: .ref a :: st) := by
  subst hq hH'
  obtain ⟨p, e, s, m, args, below, meth, c, rfl, hx, hZ, hby, hml, hown, hnm, hret, hlk⟩ := C
  intro T L X N hH
  obtain ⟨g1, -, cl, A, hc⟩ := hH.2.2 i _ _ hi
  obtain ⟨T', h', X', e', W, stp⟩ := stJ X hx hZ rfl A (own_in hc h0 hj) (g := mkF m pc ⟨ls⟩ (.long x :: .int j :: .ref a :: st)) rfl rfl (hb hby hd)
  obtain ⟨t, o, st2, P⟩ := K T' _ X' (Fr.snoc X' N g1) (by rw [e']; exact own_Hp_set hH hi W (own_arr_set A hc W))
  exact ⟨t, o, stp _ st2, P⟩
theorem own_Wk.bastore (C : own_Wk Z n0 R y bytes maxL ret l Q G) (i : Nat) {a : Addr} {vs : List Value} {j x : Int32} {H' : own_Hs} (hd : decode bytes pc = .ok (.bastore, 1)) (hi : H[i]? = some (a, .inl (.byte, vs))) (h0 : ¬ j < 0) (hj : j.toNatClampNeg < vs.length) (hH' : H.set i (a, .inl (.byte, vs.set j.toNatClampNeg (.int (nar .byte x)))) = H') (hq : pc + 1 = q) (K : G k n H' q ls st) : G k n H pc ls (.int x :: .int j :: .ref a :: st) := by
  subst hq hH'
  obtain ⟨p, e, s, m, args, below, meth, c, rfl, hx, hZ, hby, hml, hown, hnm, hret, hlk⟩ := C
  intro T L X N hH
  obtain ⟨g1, -, cl, A, hc⟩ := hH.2.2 i _ _ hi
  obtain ⟨T', h', X', e', W, stp⟩ := stB X hx hZ rfl A (own_in hc h0 hj) (g := mkF m pc ⟨ls⟩ (.int x :: .int j :: .ref a :: st)) rfl rfl (hb hby hd)
  obtain ⟨t, o, st2, P⟩ := K T' _ X' (Fr.snoc X' N g1) (by rw [e']; exact own_Hp_set hH hi W (own_arr_set A hc W))
  exact ⟨t, o, stp _ st2, P⟩
theorem own_Wk.newarr (C : own_Wk Z n0 R y bytes maxL ret l Q G) (cap : Nat) {aty : ArrayType} {z : Int32} {ty : FieldType} {vs : List Value} {k' n' : Nat} (hd : decode bytes pc = .ok (.newarray aty, 2)) (w : (Jvm.Cond.arrayClass (newarray.typeOf aty)).before a0 Z = true) (hz : ¬ z < 0) (hcap : z.toNatClampNeg ≤ cap) (hb8 : cap * 8 ≤ 536870912) (hc : k + 1 ≤ R.cells) (hl : n + cap ≤ R.slots)
    (hty : newarray.typeOf aty = ty) (hvs : List.replicate z.toNatClampNeg (defaultValue ty) = vs) (hk' : k + 1 = k') (hn' : n + cap = n') (hq : pc + 2 = q) (K : ∀ a, G k' n' (H ++ [(a, .inl (ty, vs))]) q ls (.ref a :: st)) : G k n H pc ls (.int z :: st) := by
  subst hq hvs hty hk' hn'
  obtain ⟨p, e, s, m, args, below, meth, c, rfl, hx, hZ, hby, hml, hown, hnm, hret, hlk⟩ := C
  intro T L X N hH
  obtain ⟨T', h', cA, X', e', E, A, stp⟩ := newP X hx hZ w rfl (g := mkF m pc ⟨ls⟩ (.int z :: st)) rfl (hb hby hd) rfl hz hcap hb8 hc hl
  obtain ⟨t, o, st2, P⟩ := K T.heap.size T' _ X' N (by
    rw [e']
    refine own_Hp_new hH E A.lt ⟨_, A, ?_⟩
    show (newA cA (newarray.typeOf aty) z).slots.toList = _
    simp only [newA, Array.toList_replicate])
  exact ⟨t, o, stp _ st2, P⟩
-- objects
def own_Laid (Z : State) (a0 : Array Value) (Cn : String) : List (String × String × FieldType) → Prop
  | [] => True
  | d :: r => (Laid Z a0 Cn Cn d.1 d.2.1 ∧ parseFieldDescriptor d.2.1 = some d.2.2) ∧ own_Laid Z a0 Cn r
theorem own_Laid.at {Cn : String} : ∀ {ds : List (String × String × FieldType)} {i : Nat} {d : String × String × FieldType}, own_Laid Z a0 Cn ds → ds[i]? = some d → Laid Z a0 Cn Cn d.1 d.2.1 ∧ parseFieldDescriptor d.2.1 = some d.2.2
  | [], _, _, _, h => by simp at h
  | d0 :: r, 0, d, L, h => by cases Option.some.inj h; exact L.1
  | d0 :: r, i + 1, d, L, h => own_Laid.at L.2 (by simpa using h)
def own_diff : List String → Bool
  | [] => true
  | x :: r => (r.all fun z => z != x) && own_diff r
theorem own_diff.inj : ∀ {xs : List String} {i j : Nat} {s : String}, own_diff xs = true → xs[i]? = some s → xs[j]? = some s → i = j
  | [], _, _, _, _, h, _ => by simp at h
  | x :: r, 0, 0, _, _, _, _ => rfl
  | x :: r, 0, j + 1, s, D, h, g => by
    simp only [own_diff, Bool.and_eq_true, List.all_eq_true, bne_iff_ne] at D
    cases Option.some.inj h
    exact absurd rfl (D.1 _ (List.mem_of_getElem? (by simpa using g)))
  | x :: r, i + 1, 0, s, D, h, g => by
    simp only [own_diff, Bool.and_eq_true, List.all_eq_true, bne_iff_ne] at D
    cases Option.some.inj g
    exact absurd rfl (D.1 _ (List.mem_of_getElem? (by simpa using h)))
  | x :: r, i + 1, j + 1, s, D, h, g => by
    simp only [own_diff, Bool.and_eq_true] at D
    exact congrArg (· + 1) (own_diff.inj (s := s) D.2 (by simpa using h) (by simpa using g))
theorem own_Wk.newobj (C : own_Wk Z n0 R y bytes maxL ret l Q G) (ds : List (String × String × FieldType)) {Cn : String} {ix nn k' n' : Nat} {fs : List (String × String × Value)} (hd : decode bytes pc = .ok (.new ix, 3)) (w1 : (Jvm.Cond.classLink y.cls ix Cn).before a0 Z = true) (w2 : (Jvm.Cond.instantiable Cn nn).before a0 Z = true) (w3 : (Jvm.Cond.initialized Cn).before a0 Z = true)
    (hL : own_Laid Z a0 Cn ds) (hdf : own_diff (ds.map fun d => d.1) = true) (hc : k + 1 ≤ R.cells) (hl : n + nn ≤ R.slots) (hfs : ds.map (fun d => (d.1, d.2.1, defaultValue d.2.2)) = fs) (hk' : k + 1 = k') (hn' : n + nn = n') (hq : pc + 3 = q)
    (K : ∀ a, G k' n' (H ++ [(a, .inr (Cn, fs))]) q ls (.ref a :: st)) : G k n H pc ls st := by
  subst hq hfs hk' hn'
  obtain ⟨p, e, s, m, args, below, meth, c, rfl, hx, hZ, hby, hml, hown, hnm, hret, hlk⟩ := C
  intro T L X N hH
  obtain ⟨T', h', X', e', E, A, D, -, stp⟩ := newO X hx hZ hown w1 w2 w3 rfl (g := mkF m pc ⟨ls⟩ st) rfl (hb hby hd) hc hl
  have at_ : ∀ (i : Nat) (f : String × String × Value), (ds.map (fun d => (d.1, d.2.1, defaultValue d.2.2)))[i]? = some f → ∃ d : String × String × FieldType, ds[i]? = some d ∧ f = (d.1, d.2.1, defaultValue d.2.2) := by
    intro i f hf
    rw [List.getElem?_map] at hf
    obtain ⟨d, h1, h2⟩ := Option.map_eq_some_iff.mp hf
    exact ⟨d, h1, h2.symm⟩
  obtain ⟨t, o, st2, P⟩ := K T.heap.size T' _ X' N (by
    rw [e']
    refine own_Hp_new hH E A.lt ⟨A, fun i j f g hf hg hs => ?_, fun i f hf => ?_⟩
    · obtain ⟨d, h1, rfl⟩ := at_ i f hf
      obtain ⟨d', h1', rfl⟩ := at_ j g hg
      by_cases hn : d.1 = d'.1
      · exact own_diff.inj hdf (s := d.1) (by rw [List.getElem?_map, h1]; rfl) (by rw [List.getElem?_map, h1', hn]; rfl)
      · exact absurd hs (slot_ne (hL.at h1).1 (hL.at h1').1 hn (hL.at h1).2 (hL.at h1').2)
    · obtain ⟨d, h1, rfl⟩ := at_ i f hf
      exact D (hL.at h1).1 (hL.at h1).2)
  exact ⟨t, o, stp _ st2, P⟩
theorem own_Wk.getf (C : own_Wk Z n0 R y bytes maxL ret l Q G) (i j : Nat) {ix : Nat} {Cn nm ds : String} {a : Addr} {fs : List (String × String × Value)} {v : Value} (hd : decode bytes pc = .ok (.getfield ix, 3)) (w : (Jvm.Cond.fieldLink y.cls ix Cn nm ds).before a0 Z = true)
    (hi : H[i]? = some (a, .inr (Cn, fs))) (hj : fs[j]? = some (nm, ds, v)) (hq : pc + 3 = q) (K : G k n H q ls (v :: st)) : G k n H pc ls (.ref a :: st) := by
  subst hq
  obtain ⟨p, e, s, m, args, below, meth, c, rfl, hx, hZ, hby, hml, hown, hnm, hret, hlk⟩ := C
  intro T L X N hH
  obtain ⟨-, -, hE, hS, hF⟩ := hH.2.2 i _ _ hi
  obtain ⟨T', X', e', stp⟩ := getF X hx hZ hown (host := "") (Or.inl w) Via.refl rfl (hF j _ hj) (g := mkF m pc ⟨ls⟩ (.ref a :: st)) rfl rfl (hb hby hd)
  obtain ⟨t, o, st2, P⟩ := K T' _ X' N (by rw [e']; exact hH)
  exact ⟨t, o, stp _ st2, P⟩
theorem own_Wk.putf (C : own_Wk Z n0 R y bytes maxL ret l Q G) (i j : Nat) {ix kk : Nat} {Cn nm ds : String} {a : Addr} {fs : List (String × String × Value)} {v old : Value} {ty : FieldType} {H' : own_Hs} (hd : decode bytes pc = .ok (.putfield ix, 3)) (w : (Jvm.Cond.fieldLink y.cls ix Cn nm ds).before a0 Z = true)
    (hL : (Jvm.Cond.lays Cn Cn nm ds).before a0 Z = true ∨ ((Jvm.Cond.laysFinal Cn Cn nm ds).before a0 Z = true ∧ y.cls = Cn ∧ y.name = "<init>")) (wi : (Jvm.Cond.instantiable Cn kk).before a0 Z = true)
    (hi : H[i]? = some (a, .inr (Cn, fs))) (hj : fs[j]? = some (nm, ds, old)) (hty : parseFieldDescriptor ds = some ty) (hn' : narrow ty v = v) (hf : fits ty v = true) (hH' : H.set i (a, .inr (Cn, fs.set j (nm, ds, v))) = H') (hq : pc + 3 = q) (K : G k n H' q ls st) : G k n H pc ls (v :: .ref a :: st) := by
  subst hq hH'
  obtain ⟨p, e, s, m, args, below, meth, c, rfl, hx, hZ, hby, hml, hown, hnm, hret, hlk⟩ := C
  intro T L X N hH
  obtain ⟨g1, -, hE, hS, hF⟩ := hH.2.2 i _ _ hi
  obtain ⟨T', h', X', e', W, stp⟩ := putF X hx hZ hown (host := "") (Or.inl w) Via.refl rfl (hF j _ hj) hE (hL.imp id fun z => ⟨z.1, z.2.1, hnm.trans z.2.2⟩) wi hty hn' hf (g := mkF m pc ⟨ls⟩ (v :: .ref a :: st)) rfl rfl (hb hby hd)
  have key : ∀ (i' : Nat) (f : String × String × Value), (fs.set j (nm, ds, v))[i']? = some f → (i' = j ∧ f = (nm, ds, v)) ∨ (i' ≠ j ∧ fs[i']? = some f) := by
    intro i' f hf'
    rw [List.getElem?_set] at hf'
    by_cases q : j = i'
    · subst q
      rw [if_pos rfl] at hf'
      split at hf'
      · exact Or.inl ⟨rfl, (Option.some.inj hf').symm⟩
      · cases hf'
    · rw [if_neg q] at hf'; exact Or.inr ⟨fun z => q z.symm, hf'⟩
  obtain ⟨t, o, st2, P⟩ := K T' _ X' (Fr.snoc X' N g1) (by
    rw [e']
    refine own_Hp_set hH hi W ⟨hE.wr W, fun i1 j1 f g h1 h2 hs => ?_, fun i1 f h1 => ?_⟩
    · rcases key i1 f h1 with ⟨z1, rfl⟩ | ⟨z1, z2⟩ <;> rcases key j1 g h2 with ⟨y1, rfl⟩ | ⟨y1, y2⟩
      · rw [z1, y1]
      · rw [z1]; exact hS j j1 (nm, ds, old) g hj y2 hs
      · rw [y1]; exact hS i1 j f (nm, ds, old) z2 hj hs
      · exact hS i1 j1 f g z2 y2 hs
    · rcases key i1 f h1 with ⟨z1, rfl⟩ | ⟨z1, z2⟩
      · exact (hF j _ hj).same W
      · exact (hF i1 f z2).other W (Or.inr fun z => z1 (hS i1 j f (nm, ds, old) z2 hj z)))
  exact ⟨t, o, stp _ st2, P⟩
theorem own_Wk.initO (C : own_Wk Z n0 R y bytes maxL ret l Q G) (W : Nat) {ix : Nat} {a : Addr} (hd : decode bytes pc = .ok (.invokespecial ix, 3)) (w1 : (Jvm.Cond.methodLink y.cls ix Lib.objectInit).before a0 Z = true) (w2 : (Jvm.Cond.instanceMethod Lib.objectInit).before a0 Z = true) (w3 : (Jvm.Cond.code Lib.objectInit ⟨#[0xb1]⟩ 1 none).before a0 Z = true)
    (hls : ls.length = maxL) (hf : 1 ≤ R.frames) (hW : (st.map fun v => v.category).sum ≤ W) (hl : W + 12 ≤ R.locals) (hq : pc + 3 = q) (K : G k n H q ls st) : G k n H pc ls (.ref a :: st) := by
  subst hq
  obtain ⟨p, e, s, m, args, below, meth, c, rfl, hx, hZ, hby, hml, hown, hnm, hret, hlk⟩ := C
  intro T L X N hH
  obtain ⟨T', X', e', stp⟩ := RoadKit.initO X hx hZ hown w1 w2 w3 rfl (g := mkF m pc ⟨ls⟩ (.ref a :: st)) rfl (by rw [hml]; exact hls) rfl (hb hby hd) hf (W := W) (by show 2 * 0 + _ ≤ _; rw [Nat.mul_zero, Nat.zero_add]; exact hW) hl
  obtain ⟨t, o, st2, P⟩ := K T' _ X' N (by rw [e']; exact hH)
  exact ⟨t, o, stp _ st2, P⟩
-- calls
theorem own_Wk.callS (C : own_Wk Z n0 R y bytes maxL ret l Q G) (W : Nat) (argsL rest : List Value) {ix : Nat} {y' : MethodName} {bytes' : ByteArray} {maxL' : Nat} {ret' r : Option FieldType} {ps : List FieldType} {rm : Room} {Q' : Option Value → own_Hs → Prop}
    (hd : decode bytes pc = .ok (.invokestatic ix, 3)) (w1 : (Jvm.Cond.methodLink y.cls ix y').before a0 Z = true) (w2 : (Jvm.Cond.static y').before a0 Z = true) (w3 : (Jvm.Cond.initialized y'.cls).before a0 Z = true) (w4 : (Jvm.Cond.code y' bytes' maxL' ret').before a0 Z = true)
    (hM : own_Con l Z n0 y' bytes' maxL' ret' [] rm argsL.toArray H Q') (hy : y'.cls ≠ "java/lang/invoke/MethodHandle" ∧ y'.cls ≠ "java/lang/invoke/VarHandle") (hfr : rm.frames + 1 ≤ R.frames) (hlo : W + (maxL' + 11) + rm.locals ≤ R.locals) (hds : parseMethodDescriptor y'.desc = some ⟨ps, r⟩) (hln : argsL.length = ps.length)
    (hls : ls.length = maxL) (hst : st = argsL.reverse ++ rest) (hW : (rest.map fun v => v.category).sum ≤ W) (hc : k + rm.cells ≤ R.cells) (hs : n + rm.slots ≤ R.slots) (hq : pc + 3 = q) (K : ∀ v H', Q' v H' → G (k + rm.cells) (n + rm.slots) H' q ls (v.toList ++ rest)) : G k n H pc ls st := by
  subst hq
  obtain ⟨p, e, s, m, args, below, meth, c, rfl, hx, hZ, hby, hml, hown, hnm, hret, hlk⟩ := C
  intro T L X N hH
  obtain ⟨v, vm₁, ⟨T', L', k', n'⟩, -, X', ⟨Lc, hQ, l', c', s'⟩, stp⟩ := Jvm.LawKit.callS X hx (y := y') hown (mvT hZ w1) (mvT hZ w2) (mvT hZ w3) (mvT hZ w4) hy
    (backOf (W := W) (Q := fun v h L => Fr n0 L ∧ ∃ H', own_Hp Z n0 h H' ∧ Q' v H') (hM T.heap hH) hZ w4 w3 hfr hlo) (g := mkF m pc ⟨ls⟩ st) rfl (by rw [hml]; exact hls) (argsL := argsL) (rest := rest) (lenOf hds hln) hst (by show 2 * 0 + _ ≤ _; rw [Nat.mul_zero, Nat.zero_add]; exact hW) (hb hby hd) (fun _ _ => ⟨rfl, rfl, hc, hs⟩)
  dsimp only [Pt.U, Pt.locs, Pt.cells, Pt.slots] at X' l' c' s' stp hQ
  subst l' c' s'
  obtain ⟨N', H', hH', hQ'⟩ := hQ
  obtain ⟨t, o, st2, P⟩ := K v H' hQ' T' _ X' (Fr.app N N') hH'
  exact ⟨t, o, stp _ st2, P⟩
theorem own_Wk.callI (C : own_Wk Z n0 R y bytes maxL ret l Q G) (W : Nat) (a : Addr) (argsL rest : List Value) {ix : Nat} {y' : MethodName} {bytes' : ByteArray} {maxL' : Nat} {r : Option FieldType} {ps : List FieldType} {rm : Room} {Q' : Option Value → own_Hs → Prop}
    (hd : decode bytes pc = .ok (.invokespecial ix, 3)) (w1 : (Jvm.Cond.methodLink y.cls ix y').before a0 Z = true) (w2 : (Jvm.Cond.instanceMethod y').before a0 Z = true) (w3 : (Jvm.Cond.initialized y'.cls).before a0 Z = true) (w4 : (Jvm.Cond.code y' bytes' maxL' none).before a0 Z = true)
    (hM : own_Con l Z n0 y' bytes' maxL' none [] rm (.ref a :: argsL).toArray H Q') (hnm' : y'.name = "<init>") (hy : y'.cls ≠ "java/lang/invoke/MethodHandle" ∧ y'.cls ≠ "java/lang/invoke/VarHandle") (hfr : rm.frames + 1 ≤ R.frames) (hlo : W + (maxL' + 11) + rm.locals ≤ R.locals) (hds : parseMethodDescriptor y'.desc = some ⟨ps, r⟩) (hln : argsL.length = ps.length)
    (hls : ls.length = maxL) (hst : st = argsL.reverse ++ .ref a :: rest) (hW : (rest.map fun v => v.category).sum ≤ W) (hc : k + rm.cells ≤ R.cells) (hs : n + rm.slots ≤ R.slots) (hq : pc + 3 = q) (K : ∀ v H', Q' v H' → G (k + rm.cells) (n + rm.slots) H' q ls (v.toList ++ rest)) : G k n H pc ls st := by
  subst hq
  obtain ⟨p, e, s, m, args, below, meth, c, rfl, hx, hZ, hby, hml, hown, hnm, hret, hlk⟩ := C
  intro T L X N hH
  obtain ⟨v, vm₁, ⟨T', L', k', n'⟩, -, X', ⟨Lc, hQ, l', c', s'⟩, stp⟩ := X.specialBack hx (y := y') hnm' hown (mvT hZ w1) (mvT hZ w2) (mvT hZ w4) hy
    (backOf (W := W) (Q := fun v h L => Fr n0 L ∧ ∃ H', own_Hp Z n0 h H' ∧ Q' v H') (hM T.heap hH) hZ w4 w3 hfr hlo) (g := mkF m pc ⟨ls⟩ st) rfl (by rw [hml]; exact hls) (Steps.refl _) (a := a) (argsL := argsL) (rest := rest) (lenOf hds hln) hst (by show 2 * 0 + _ ≤ _; rw [Nat.mul_zero, Nat.zero_add]; exact hW) (hb hby hd) (fun _ _ => ⟨rfl, rfl, hc, hs⟩)
  dsimp only [Pt.U, Pt.locs, Pt.cells, Pt.slots] at X' l' c' s' stp hQ
  subst l' c' s'
  obtain ⟨N', H', hH', hQ'⟩ := hQ
  obtain ⟨t, o, st2, P⟩ := K v H' hQ' T' _ X' (Fr.app N N') hH'
  exact ⟨t, o, stp.trans st2, P⟩
theorem own_Wk.callV (C : own_Wk Z n0 R y bytes maxL ret l Q G) (W i : Nat) (argsL rest : List Value) {a : Addr} {ix : Nat} {y' : MethodName} {bytes' : ByteArray} {maxL' : Nat} {ret' r : Option FieldType} {ps : List FieldType} {fs : List (String × String × Value)} {rm : Room} {Q' : Option Value → own_Hs → Prop}
    (hd : decode bytes pc = .ok (.invokevirtual ix, 3)) (w1 : (Jvm.Cond.methodLink y.cls ix y').before a0 Z = true) (w2 : (Jvm.Cond.declares y').before a0 Z = true) (w5 : (Jvm.Cond.instanceMethod y').before a0 Z = true) (w6 : (Jvm.Cond.selects y'.cls y' y').before a0 Z = true) (w3 : (Jvm.Cond.initialized y'.cls).before a0 Z = true) (w4 : (Jvm.Cond.code y' bytes' maxL' ret').before a0 Z = true)
    (hM : own_Con l Z n0 y' bytes' maxL' ret' [] rm (.ref a :: argsL).toArray H Q') (hy : y'.cls ≠ "java/lang/invoke/MethodHandle" ∧ y'.cls ≠ "java/lang/invoke/VarHandle") (hfr : rm.frames + 1 ≤ R.frames) (hlo : W + (maxL' + 11) + rm.locals ≤ R.locals) (hds : parseMethodDescriptor y'.desc = some ⟨ps, r⟩) (hln : argsL.length = ps.length)
    (hi : H[i]? = some (a, .inr (y'.cls, fs))) (hls : ls.length = maxL) (hst : st = argsL.reverse ++ .ref a :: rest) (hW : (rest.map fun v => v.category).sum ≤ W) (hc : k + rm.cells ≤ R.cells) (hs : n + rm.slots ≤ R.slots) (hq : pc + 3 = q) (K : ∀ v H', Q' v H' → G (k + rm.cells) (n + rm.slots) H' q ls (v.toList ++ rest)) : G k n H pc ls st := by
  subst hq
  obtain ⟨p, e, s, m, args, below, meth, c, rfl, hx, hZ, hby, hml, hown, hnm, hret, hlk⟩ := C
  intro T L X N hH
  obtain ⟨-, -, hE, -, -⟩ := hH.2.2 i _ _ hi
  obtain ⟨cB, kB, b1, -, b3⟩ := isOf hZ rfl hE
  obtain ⟨v, vm₁, ⟨T', L', k', n'⟩, -, X', ⟨Lc, hQ, l', c', s'⟩, stp⟩ := X.virtualBack hx (y := y') (z := y') hown (mvT hZ w1) (mvT hZ w2) (notFace_of_selects (args := #[]) (mvT hZ w6)) (mvT hZ w6) (mvT hZ w5) hy
    (backOf (W := W) (Q := fun v h L => Fr n0 L ∧ ∃ H', own_Hp Z n0 h H' ∧ Q' v H') (hM T.heap hH) hZ w4 w3 hfr hlo) b1 b3 (g := mkF m pc ⟨ls⟩ st) rfl (by rw [hml]; exact hls) (Steps.refl _) (argsL := argsL) (rest := rest) (lenOf hds hln) hst (by show 2 * 0 + _ ≤ _; rw [Nat.mul_zero, Nat.zero_add]; exact hW) (hb hby hd) (fun _ _ => ⟨rfl, rfl, hc, hs⟩)
  dsimp only [Pt.U, Pt.locs, Pt.cells, Pt.slots] at X' l' c' s' stp hQ
  subst l' c' s'
  obtain ⟨N', H', hH', hQ'⟩ := hQ
  obtain ⟨t, o, st2, P⟩ := K v H' hQ' T' _ X' (Fr.app N N') hH'
  exact ⟨t, o, stp.trans st2, P⟩
theorem own_Wk.callF (C : own_Wk Z n0 R y bytes maxL ret l Q G) (W i : Nat) (argsL rest : List Value) {a : Addr} {ix cnt : Nat} {xi y' : MethodName} {bytes' : ByteArray} {maxL' : Nat} {ret' r : Option FieldType} {ps : List FieldType} {fs : List (String × String × Value)} {rm : Room} {Q' : Option Value → own_Hs → Prop}
    (hd : decode bytes pc = .ok (.invokeinterface ix cnt, 5)) (w1 : (Jvm.Cond.methodLink y.cls ix xi).before a0 Z = true) (w2 : (Jvm.Cond.declares xi).before a0 Z = true) (w7 : ∀ {s : State} {args : Array Value}, Z.Warmed39 s.vm → (Jvm.Cond.interfaceMethod xi.cls xi.cls xi.name xi.desc).before args s = true) (w6 : (Jvm.Cond.selects y'.cls xi y').before a0 Z = true) (w5 : (Jvm.Cond.instanceMethod y').before a0 Z = true)
    (w8 : (Jvm.Cond.publicMethod y').before a0 Z = true) (w9 : (Jvm.Cond.unhidden y'.cls xi.name xi.desc).before a0 Z = true) (w10 : (Jvm.Cond.castable y'.cls xi.cls).before a0 Z = true) (w3 : (Jvm.Cond.initialized y'.cls).before a0 Z = true) (w4 : (Jvm.Cond.code y' bytes' maxL' ret').before a0 Z = true)
    (hM : own_Con l Z n0 y' bytes' maxL' ret' [] rm (.ref a :: argsL).toArray H Q') (hy : xi.cls ≠ "java/lang/invoke/MethodHandle" ∧ xi.cls ≠ "java/lang/invoke/VarHandle") (hfr : rm.frames + 1 ≤ R.frames) (hlo : W + (maxL' + 11) + rm.locals ≤ R.locals) (hds : parseMethodDescriptor xi.desc = some ⟨ps, r⟩) (hln : argsL.length = ps.length)
    (hi : H[i]? = some (a, .inr (y'.cls, fs))) (hls : ls.length = maxL) (hst : st = argsL.reverse ++ .ref a :: rest) (hW : (rest.map fun v => v.category).sum ≤ W) (hc : k + rm.cells ≤ R.cells) (hs : n + rm.slots ≤ R.slots) (hq : pc + 5 = q) (K : ∀ v H', Q' v H' → G (k + rm.cells) (n + rm.slots) H' q ls (v.toList ++ rest)) : G k n H pc ls st := by
  subst hq
  obtain ⟨p, e, s, m, args, below, meth, c, rfl, hx, hZ, hby, hml, hown, hnm, hret, hlk⟩ := C
  intro T L X N hH
  obtain ⟨-, -, hE, -, -⟩ := hH.2.2 i _ _ hi
  obtain ⟨cB, kB, b1, b2, b3⟩ := isOf hZ rfl hE
  obtain ⟨v, vm₁, ⟨T', L', k', n'⟩, -, X', ⟨Lc, hQ, l', c', s'⟩, stp⟩ := X.interfaceBack hx (xi := xi) (y := y') hown (mvT hZ w1) (mvT hZ w2) (w7 hZ) (mvT hZ w6) (mvT hZ w5) (mvT hZ w8) (mvT hZ w9) (mvT hZ w10) hy
    (backOf (W := W) (Q := fun v h L => Fr n0 L ∧ ∃ H', own_Hp Z n0 h H' ∧ Q' v H') (hM T.heap hH) hZ w4 w3 hfr hlo) b1 b2 b3 (g := mkF m pc ⟨ls⟩ st) rfl (by rw [hml]; exact hls) (Steps.refl _) (argsL := argsL) (rest := rest) (lenOf hds hln) hst (by show 2 * 0 + _ ≤ _; rw [Nat.mul_zero, Nat.zero_add]; exact hW) (hb hby hd) (fun _ _ => ⟨rfl, rfl, hc, hs⟩)
  dsimp only [Pt.U, Pt.locs, Pt.cells, Pt.slots] at X' l' c' s' stp hQ
  subst l' c' s'
  obtain ⟨N', H', hH', hQ'⟩ := hQ
  obtain ⟨t, o, st2, P⟩ := K v H' hQ' T' _ X' (Fr.app N N') hH'
  exact ⟨t, o, stp.trans st2, P⟩
end OwnKit
theorem own_pd0 : parseMethodDescriptor "(J)I" = some ⟨[.long], some .int⟩ := by decide +kernel
theorem own_pd1 : parseMethodDescriptor "(JJ)I" = some ⟨[.long, .long], some .int⟩ := by decide +kernel
theorem own_pd2 : parseMethodDescriptor "(J[BI)I" = some ⟨[.long, (.array .byte), .int], some .int⟩ := by decide +kernel
theorem own_pd3 : parseMethodDescriptor "([BBIIJ[JI)Z" = some ⟨[(.array .byte), .byte, .int, .int, .long, (.array .long), .int], some .boolean⟩ := by decide +kernel
/-- how many of 1, 10, 100 .. (k of them) r reaches -/
def own_S : Nat → Nat → Nat
  | 0, _ => 0
  | k + 1, r => (if 1 ≤ r then 1 else 0) + own_S k (r / 10)
theorem own_S0 : ∀ k, own_S k 0 = 0
  | 0 => rfl
  | k + 1 => by rw [own_S, own_S0 k]; rfl
/-- 1, and one for each of 10, 100 .. (k of them) that v reaches -/
def own_r : Nat → Nat → Nat
  | 0, _ => 1
  | k + 1, v => own_r k v + (if 10 ^ (k + 1) ≤ v then 1 else 0)
theorem own_rS (v : Nat) : own_r 18 v = 1 + own_S 18 (v / 10) := by
  simp only [own_r, own_S, Nat.div_div_eq_div_mul]
  have h : ∀ m, 0 < m → ((1 ≤ v / m) = (m ≤ v)) := fun m hm => by rw [Nat.le_div_iff_mul_le hm, Nat.one_mul]
  simp only [Nat.reduceMul, Nat.reducePow, Nat.reduceAdd, h 10 (by decide), h 100 (by decide), h 1000 (by decide), h 10000 (by decide), h 100000 (by decide), h 1000000 (by decide), h 10000000 (by decide), h 100000000 (by decide), h 1000000000 (by decide), h 10000000000 (by decide), h 100000000000 (by decide), h 1000000000000 (by decide), h 10000000000000 (by decide), h 100000000000000 (by decide), h 1000000000000000 (by decide), h 10000000000000000 (by decide), h 100000000000000000 (by decide), h 1000000000000000000 (by decide)]
  omega
theorem own_st {v z : Int64} {n m : Int32} {k : Nat} (hv : 0 ≤ v.toInt) (hz : z.toInt = ((10 ^ (k + 1) : Nat) : Int)) (hn : n = Int32.ofNat (own_r k v.toInt.toNat)) (hm : m = (if v < z then n else (n + (1 : Int32)))) : m = Int32.ofNat (own_r (k + 1) v.toInt.toNat) := by
  rw [hm, own_r]
  by_cases h : v < z
  · rw [if_pos h, if_neg, Nat.add_zero, hn]
    rw [Int64.lt_iff_toInt_lt, hz] at h; omega
  · rw [if_neg h, if_pos, hn]
    · exact (Int32.ofNat_add _ 1).symm
    · rw [Int64.lt_iff_toInt_lt, hz] at h; omega
theorem own_ush {x : Int64} (h : 0 ≤ x.toInt) (s : UInt64) : 0 ≤ ((x.toUInt64 >>> s).toInt64).toInt := by
  have h2 : (x.toBitVec >>> (s.toBitVec % 64#64)).toNat ≤ x.toBitVec.toNat := by
    rw [BitVec.ushiftRight_eq', BitVec.toNat_ushiftRight, Nat.shiftRight_eq_div_pow]; exact Nat.div_le_self _ _
  change 0 ≤ x.toBitVec.toInt at h
  show 0 ≤ (x.toBitVec >>> (s.toBitVec % 64#64)).toInt
  have h3 := x.toBitVec.isLt
  rw [BitVec.toInt_eq_toNat_cond] at h ⊢
  split at h <;> split <;> omega
theorem own_v1 {z : Int64} (h : 1 ≤ z.toInt ∧ z.toInt ≤ 1000000000000000000) (m : Int32) : 0 ≤ ((z - (1 : Int64)) + (m &&& (1 : Int32)).toInt64).toInt := by
  have b := c_mask m 1 1 (by decide) (by decide); have e := c_i2l (m &&& 1)
  have s := c_lsub z 1; have r := rng64 (z - 1); have a := c_ladd (z - 1) (m &&& 1).toInt64; have r2 := rng64 (z - 1 + (m &&& 1).toInt64)
  simp only [Int64.reduceToInt] at s
  omega
theorem own_i19 (a : Int32) : 0 ≤ ((a &&& (2147483647 : Int32)) % (19 : Int32)).toInt ∧ ((a &&& (2147483647 : Int32)) % (19 : Int32)).toInt ≤ 18 := by
  have m := c_mask a 2147483647 31 (by decide) (by decide)
  have e := (c_irem (a &&& 2147483647) 19 19 rfl).1 (by omega)
  omega
theorem own_nn (a : Int64) : 0 ≤ (a &&& (9223372036854775807 : Int64)).toInt := by
  rw [c_maskL a 9223372036854775807 63 (by decide) (by decide)]; omega
theorem own_d10 {r : Int64} (h : 0 ≤ r.toInt) : (r / (10 : Int64)).toInt = r.toInt / 10 := (c_ldiv r 10 10 rfl (by decide)).1 h
theorem own_at19 {i : Int32} (h0 : 0 ≤ i.toInt) (h1 : i.toInt ≤ 18) : ∃ z : Int64, (1 ≤ z.toInt ∧ z.toInt ≤ 1000000000000000000) ∧ ([.long (1 : Int64), .long (10 : Int64), .long (100 : Int64), .long (1000 : Int64), .long (10000 : Int64), .long (100000 : Int64), .long (1000000 : Int64), .long (10000000 : Int64), .long (100000000 : Int64), .long (1000000000 : Int64), .long (10000000000 : Int64), .long (100000000000 : Int64), .long (1000000000000 : Int64), .long (10000000000000 : Int64), .long (100000000000000 : Int64), .long (1000000000000000 : Int64), .long (10000000000000000 : Int64), .long (100000000000000000 : Int64), .long (1000000000000000000 : Int64)] : List Value)[i.toNatClampNeg]? = some (.long z) := by
  have hc : i.toNatClampNeg = i.toInt.toNat := rfl
  rw [hc]
  obtain ⟨j, hj⟩ : ∃ j : Nat, j = i.toInt.toNat := ⟨_, rfl⟩
  rw [← hj]
  have : j < 19 := by omega
  have key : ∀ j : Fin 19, ∃ z : Int64, (1 ≤ z.toInt ∧ z.toInt ≤ 1000000000000000000) ∧ ([.long (1 : Int64), .long (10 : Int64), .long (100 : Int64), .long (1000 : Int64), .long (10000 : Int64), .long (100000 : Int64), .long (1000000 : Int64), .long (10000000 : Int64), .long (100000000 : Int64), .long (1000000000 : Int64), .long (10000000000 : Int64), .long (100000000000 : Int64), .long (1000000000000 : Int64), .long (10000000000000 : Int64), .long (100000000000000 : Int64), .long (1000000000000000 : Int64), .long (10000000000000000 : Int64), .long (100000000000000000 : Int64), .long (1000000000000000000 : Int64)] : List Value)[j.val]? = some (.long z) := by
    intro j
    match j with
    | ⟨0, _⟩ => exact ⟨1, by decide, rfl⟩
    | ⟨1, _⟩ => exact ⟨10, by decide, rfl⟩
    | ⟨2, _⟩ => exact ⟨100, by decide, rfl⟩
    | ⟨3, _⟩ => exact ⟨1000, by decide, rfl⟩
    | ⟨4, _⟩ => exact ⟨10000, by decide, rfl⟩
    | ⟨5, _⟩ => exact ⟨100000, by decide, rfl⟩
    | ⟨6, _⟩ => exact ⟨1000000, by decide, rfl⟩
    | ⟨7, _⟩ => exact ⟨10000000, by decide, rfl⟩
    | ⟨8, _⟩ => exact ⟨100000000, by decide, rfl⟩
    | ⟨9, _⟩ => exact ⟨1000000000, by decide, rfl⟩
    | ⟨10, _⟩ => exact ⟨10000000000, by decide, rfl⟩
    | ⟨11, _⟩ => exact ⟨100000000000, by decide, rfl⟩
    | ⟨12, _⟩ => exact ⟨1000000000000, by decide, rfl⟩
    | ⟨13, _⟩ => exact ⟨10000000000000, by decide, rfl⟩
    | ⟨14, _⟩ => exact ⟨100000000000000, by decide, rfl⟩
    | ⟨15, _⟩ => exact ⟨1000000000000000, by decide, rfl⟩
    | ⟨16, _⟩ => exact ⟨10000000000000000, by decide, rfl⟩
    | ⟨17, _⟩ => exact ⟨100000000000000000, by decide, rfl⟩
    | ⟨18, _⟩ => exact ⟨1000000000000000000, by decide, rfl⟩
    | ⟨n + 19, h⟩ => exact absurd h (by omega)
  exact key ⟨j, this⟩
theorem d2_8 : decode prog_64_method_2_code 8 = .ok (.lload_n 3, 1) := by decide +kernel
theorem d2_9 : decode prog_64_method_2_code 9 = .ok (.lconst 0, 1) := by decide +kernel
theorem d2_10 : decode prog_64_method_2_code 10 = .ok (.lcmp, 1) := by decide +kernel
theorem d2_11 : decode prog_64_method_2_code 11 = .ok (.ifCond .le 15, 3) := by decide +kernel
theorem d2_14 : decode prog_64_method_2_code 14 = .ok (.iinc 2 1, 3) := by decide +kernel
theorem d2_17 : decode prog_64_method_2_code 17 = .ok (.lload_n 3, 1) := by decide +kernel
theorem d2_18 : decode prog_64_method_2_code 18 = .ok (.ldc2_w 7, 3) := by decide +kernel
theorem d2_21 : decode prog_64_method_2_code 21 = .ok (.ldiv, 1) := by decide +kernel
theorem d2_22 : decode prog_64_method_2_code 22 = .ok (.lstore_n 3, 1) := by decide +kernel
theorem d2_23 : decode prog_64_method_2_code 23 = .ok (.goto (-15), 3) := by decide +kernel
set_option maxRecDepth 65536 in
theorem own_tn {Z : State} {a0 : Array Value} {n0 : Nat} {R : Room} {l : Launch} {Q : Option Value → own_Hs → Prop} {G : Nat → Nat → own_Hs → Nat → List Slot → List Value → Prop} (hw : ∀ d ∈ tables_1, d.before a0 Z = true)
    (C : own_Wk Z n0 R (⟨"com/example/bowerbird/bowerbird/http/server/AsciiDigits", "count", "(J)I"⟩ : MethodName) prog_64_method_2_code 5 (some .int) l Q G) (a : Int64) (H : own_Hs) (n : Int32) (r : Int64) (K1 : 0 < r → G 0 0 H 8 [.val (.long a), .second, .val (.int (n + (1 : Int32))), .val (.long (r / (10 : Int64))), .second] []) (K0 : ¬ 0 < r → G 0 0 H 26 [.val (.long a), .second, .val (.int n), .val (.long r), .second] []) : G 0 0 H 8 [.val (.long a), .second, .val (.int n), .val (.long r), .second] [] := by
  refine C.lloadN (q := 9) d2_8 rfl rfl ?_
  refine C.lconst (q := 10) (z := (0 : Int64)) d2_9 rfl rfl ?_
  refine C.lcmpLe (q := 26) (q' := 14) (q1 := 11) d2_10 rfl d2_11 (by decide) (by decide) rfl (fun h10 => ?_) (fun h10 => ?_)
  · refine C.iinc (q := 17) (z := (1 : Int32)) (ls' := [.val (.long a), .second, .val (.int (n + (1 : Int32))), .val (.long r), .second]) d2_14 rfl rfl rfl rfl ?_
    refine C.lloadN (q := 18) d2_17 rfl rfl ?_
    refine C.ldc2 (q := 21) (v := (10 : Int64)) d2_18 (hw _ (List.mem_of_getElem? (i := 31) rfl)) rfl ?_
    refine C.ldiv (q := 22) d2_21 (by decide) rfl ?_
    refine C.lstoreN (q := 23) (ls' := [.val (.long a), .second, .val (.int (n + (1 : Int32))), .val (.long (r / (10 : Int64))), .second]) d2_22 rfl rfl ?_
    refine C.goto (q := 8) d2_23 (by decide) (by decide) ?_
    exact K1 h10
  · exact K0 h10
theorem own_lp {Z : State} {a0 : Array Value} {n0 : Nat} {R : Room} {l : Launch} {Q : Option Value → own_Hs → Prop} {G : Nat → Nat → own_Hs → Nat → List Slot → List Value → Prop} (hw : ∀ d ∈ tables_1, d.before a0 Z = true)
    (C : own_Wk Z n0 R (⟨"com/example/bowerbird/bowerbird/http/server/AsciiDigits", "count", "(J)I"⟩ : MethodName) prog_64_method_2_code 5 (some .int) l Q G) (a : Int64) (H : own_Hs) :
        ∀ (k : Nat) (n : Int32) (r : Int64), 0 ≤ r.toInt → r.toInt < ((10 ^ k : Nat) : Int) → (∀ z, G 0 0 H 26 [.val (.long a), .second, .val (.int (n + Int32.ofNat (own_S k r.toInt.toNat))), .val (.long z), .second] []) → G 0 0 H 8 [.val (.long a), .second, .val (.int n), .val (.long r), .second] [] := by
      intro k
      induction k with
      | zero =>
        intro n r h0 h1 K
        have hr : r.toInt = 0 := by simp only [Nat.pow_zero] at h1; omega
        refine own_tn hw C a H n r (fun h => ?_) (fun _ => ?_)
        · rw [Int64.lt_iff_toInt_lt, hr] at h; exact absurd h (by decide)
        · have K0 := K r
          rwa [own_S, show Int32.ofNat 0 = 0 from rfl, Int32.add_zero] at K0
      | succ k ih =>
        intro n r h0 h1 K
        refine own_tn hw C a H n r (fun h => ?_) (fun h => ?_)
        · rw [Int64.lt_iff_toInt_lt] at h
          have hr : 0 < r.toInt := h
          have e := own_d10 h0
          refine ih (n + 1) (r / 10) (by omega) ?_ (fun z => ?_)
          · rw [e]; rw [Nat.pow_succ] at h1; omega
          · have K1 := K z
            have e2 : (r / 10).toInt.toNat = r.toInt.toNat / 10 := by rw [e]; omega
            rw [own_S, if_pos (show 1 ≤ r.toInt.toNat by omega), Int32.ofNat_add, show Int32.ofNat 1 = 1 from rfl, ← Int32.add_assoc] at K1
            rw [e2]; exact K1
        · rw [Int64.lt_iff_toInt_lt] at h
          have hr : r.toInt.toNat = 0 := by have h' : ¬ 0 < r.toInt := h; omega
          have K0 := K r
          rw [hr, own_S0, show Int32.ofNat 0 = 0 from rfl, Int32.add_zero] at K0
          exact K0
theorem own_ct {a : Int64} (h0 : 0 ≤ a.toInt) : (1 : Int32) + Int32.ofNat (own_S 18 (a / (10 : Int64)).toInt.toNat) = Int32.ofNat (own_r 18 a.toInt.toNat) := by
      rw [own_rS, Int32.ofNat_add, own_d10 h0, show (a.toInt / 10).toNat = a.toInt.toNat / 10 by omega]; rfl
theorem d2_0 : decode prog_64_method_2_code 0 = .ok (.iconst 1, 1) := by decide +kernel
theorem d2_1 : decode prog_64_method_2_code 1 = .ok (.istore_n 2, 1) := by decide +kernel
theorem d2_2 : decode prog_64_method_2_code 2 = .ok (.lload_n 0, 1) := by decide +kernel
theorem d2_3 : decode prog_64_method_2_code 3 = .ok (.ldc2_w 7, 3) := by decide +kernel
theorem d2_6 : decode prog_64_method_2_code 6 = .ok (.ldiv, 1) := by decide +kernel
theorem d2_7 : decode prog_64_method_2_code 7 = .ok (.lstore_n 3, 1) := by decide +kernel
theorem d2_26 : decode prog_64_method_2_code 26 = .ok (.iload_n 2, 1) := by decide +kernel
theorem d2_27 : decode prog_64_method_2_code 27 = .ok (.ireturn, 1) := by decide +kernel
theorem own_pn2 : plainFor (⟨"com/example/bowerbird/bowerbird/http/server/AsciiDigits", "count", "(J)I"⟩ : MethodName) = true := by first | exact plainFor_of_name (by first | (simp [plainName, overriddenIn]; done) | decide +kernel) | decide +kernel
set_option maxHeartbeats 4000000 in
theorem own_ef2 (m : MethodId) (x0 : Int64) : entryFrame m #[.long x0] 5 = mkF m 0 #[.val (.long x0), .second, .unset, .unset, .unset] [] := by first | (simp [entryFrame, mkF, argsToLocals, Value.category, maxLocals]; done) | rfl
set_option maxRecDepth 65536 in
set_option maxHeartbeats 40000000 in
theorem own_c2 (l : Launch) (Z : State) (a0 : Array Value) (n0 : Nat) (hw : ∀ d ∈ tables_1, d.before a0 Z = true) (ws : List Jvm.Cond) (a : Int64) (H : own_Hs) (h0 : 0 ≤ a.toInt) :
    own_Con l Z n0 (⟨"com/example/bowerbird/bowerbird/http/server/AsciiDigits", "count", "(J)I"⟩ : MethodName) prog_64_method_2_code 5 (some .int) ws ({ frames := 0, cells := 0, slots := 0, locals := 0 } : Room) #[.long a] H (fun v H' => v = some (.int (Int32.ofNat (own_r 18 a.toInt.toNat))) ∧ H' = H) := by
  refine own_con own_pn2 (fun m_ => own_ef2 m_ a) ?_
  intro G C
  refine C.iconst (q := 1) (z := (1 : Int32)) d2_0 rfl rfl ?_
  refine C.istoreN (q := 2) (ls' := [.val (.long a), .second, .val (.int (1 : Int32)), .unset, .unset]) d2_1 rfl rfl ?_
  refine C.lloadN (q := 3) d2_2 rfl rfl ?_
  refine C.ldc2 (q := 6) (v := (10 : Int64)) d2_3 (hw _ (List.mem_of_getElem? (i := 31) rfl)) rfl ?_
  refine C.ldiv (q := 7) d2_6 (by decide) rfl ?_
  refine C.lstoreN (q := 8) (ls' := [.val (.long a), .second, .val (.int (1 : Int32)), .val (.long (a / (10 : Int64))), .second]) d2_7 rfl rfl ?_
  refine own_lp hw C a H 18 (1 : Int32) (a / (10 : Int64)) (by rw [own_d10 h0]; omega) (by rw [own_d10 h0]; have := rng64 a; omega) (fun z => ?_)
  refine C.iloadN (q := 27) d2_26 rfl rfl ?_
  exact C.retI d2_27 (by decide) (by decide) ⟨congrArg (fun z => some (Value.int z)) (own_ct h0), rfl⟩
def own_ge (v p : Int64) : Int32 := if v < p then 0 else 1
theorem own_sg {v z : Int64} {n m : Int32} {k : Nat} (hv : 0 ≤ v.toInt) (hz : z.toInt = ((10 ^ (k + 1) : Nat) : Int)) (hn : n = Int32.ofNat (own_r k v.toInt.toNat)) (hm : n + own_ge v z = m) : m = Int32.ofNat (own_r (k + 1) v.toInt.toNat) := by
  refine own_st hv hz hn ?_
  rw [← hm, own_ge]
  by_cases h : v < z
  · rw [if_pos h, if_pos h, Int32.add_zero]
  · rw [if_neg h, if_neg h]
def own_arr (F : Nat → Int32) : List Value := (List.range 23).map fun i => .int (F i)
def own_up (F : Nat → Int32) (i : Nat) (x : Int32) (j : Nat) : Int32 := if j = i then x else F j
theorem own_arr_len (F : Nat → Int32) : (own_arr F).length = 23 := by simp [own_arr]
theorem own_arr_at (F : Nat → Int32) {i : Nat} (h : i < 23) : (own_arr F)[i]? = some (.int (F i)) := by simp [own_arr, h]
theorem own_arrS (F : Nat → Int32) (i : Nat) (x : Int32) : (own_arr F).set i (.int x) = own_arr (own_up F i x) := by
  apply List.ext_getElem?
  intro j
  rw [List.getElem?_set, own_arr_len]
  by_cases hj : j < 23
  · rw [own_arr_at (own_up F i x) hj, own_up]
    by_cases e : i = j
    · subst e; rw [if_pos rfl, if_pos hj, if_pos rfl]
    · rw [if_neg e, own_arr_at F hj, if_neg fun z => e z.symm]
  · have n1 : ∀ F', (own_arr F')[j]? = none := fun F' => List.getElem?_eq_none (by rw [own_arr_len]; omega)
    rw [n1, n1]
    split
    · rw [if_neg (by omega)]
    · rfl
def own_di (v : Int64) : Int32 := ((48 : Int64) + v % (10 : Int64)).toInt32.toInt8.toInt32
theorem own_nbI (x : Int32) : nar .byte x.toInt8.toInt32 = x.toInt8.toInt32 := by show x.toInt8.toInt32.toInt8.toInt32 = _; rw [Int8.toInt8_toInt32]
def own_pt (t : Nat) : Nat → Int64 → (Nat → Int32) → Nat → Int32
  | 0, _, F => F
  | k + 1, v, F => own_pt t k (v / (10 : Int64)) (own_up F (t + k) (own_di v))
def own_dv : Nat → Int64 → Int64
  | 0, v => v
  | e + 1, v => own_dv e (v / (10 : Int64))
theorem own_pt_at (t : Nat) : ∀ (k : Nat) (v : Int64) (F : Nat → Int32) (j : Nat), own_pt t k v F j = if t ≤ j ∧ j < t + k then own_di (own_dv (t + k - 1 - j) v) else F j
  | 0, v, F, j => by rw [own_pt, if_neg (by omega)]
  | k + 1, v, F, j => by
    rw [own_pt, own_pt_at t k]
    by_cases h : t ≤ j ∧ j < t + k
    · rw [if_pos h, if_pos (by omega), show t + (k + 1) - 1 - j = (t + k - 1 - j) + 1 by omega, own_dv]
    · rw [if_neg h, own_up]
      by_cases e : j = t + k
      · rw [if_pos e, if_pos (by omega), show t + (k + 1) - 1 - j = 0 by omega, own_dv]
      · rw [if_neg e, if_neg (by omega)]
theorem own_dv_toInt : ∀ (e : Nat) (v : Int64), 0 ≤ v.toInt → (own_dv e v).toInt = v.toInt / ((10 ^ e : Nat) : Int)
  | 0, v, h => by rw [own_dv, Nat.pow_zero]; exact (Int.ediv_one _).symm
  | e + 1, v, h => by
    have q := own_d10 h
    rw [own_dv, own_dv_toInt e _ (by omega), q, Nat.pow_succ, Nat.mul_comm, Int.natCast_mul, ← Int.ediv_ediv_of_nonneg (by decide)]
    rfl
theorem own_ti {n : Nat} (h : n < 1000) : (Int32.ofNat n).toInt = n := Int32.toInt_ofNat_of_lt (by omega)
theorem own_nn3 {n : Nat} (h : n < 1000) : ¬ Int32.ofNat n < 0 := by rw [Int32.lt_iff_toInt_lt, own_ti h]; simp only [Int32.reduceToInt]; omega
theorem own_lt {i n : Nat} (h : i < 1000) (g : n < 1000) : Int32.ofNat i < Int32.ofNat n ↔ i < n := by rw [Int32.lt_iff_toInt_lt, own_ti h, own_ti g]; omega
theorem own_cn {n : Nat} (h : n < 1000) : (Int32.ofNat n).toNatClampNeg = n := by rw [Int32.toNatClampNeg, own_ti h]; rfl
theorem own_ofInt {x : Int32} {n : Nat} (h : x.toInt = n) (hn : n < 1000) : x = Int32.ofNat n := by apply Int32.toInt_inj.mp; rw [own_ti hn, h]
theorem own_pr {n : Nat} (h : n < 1000) (h1 : 1 ≤ n) : Int32.ofNat n - (1 : Int32) = Int32.ofNat (n - 1) := by
  have d := c_isub (Int32.ofNat n) 1; have r := rng32 (Int32.ofNat n - 1); have e := own_ti h
  simp only [Int32.reduceToInt] at d
  exact own_ofInt (by omega) (by omega)
theorem own_sb {n m : Nat} (h : n < 1000) (h1 : m ≤ n) : Int32.ofNat n - Int32.ofNat m = Int32.ofNat (n - m) := by
  have d := c_isub (Int32.ofNat n) (Int32.ofNat m); have r := rng32 (Int32.ofNat n - Int32.ofNat m); have e := own_ti h; have e2 := own_ti (n := m) (by omega)
  exact own_ofInt (by omega) (by omega)
theorem own_dn (n : Nat) : Int32.ofNat (n + 1) - (1 : Int32) + (-1 : Int32) = Int32.ofNat n - (1 : Int32) := by
  rw [Int32.ofNat_add, show Int32.ofNat 1 = 1 from rfl]
  apply Int32.toInt_inj.mp
  have a := c_iadd (Int32.ofNat n) 1; have b := c_isub (Int32.ofNat n + 1) 1; have c := c_iadd (Int32.ofNat n + 1 - 1) (-1); have d := c_isub (Int32.ofNat n) 1
  have r1 := rng32 (Int32.ofNat n + 1 - 1 + -1); have r2 := rng32 (Int32.ofNat n - 1)
  simp only [Int32.reduceToInt, show (-1 : Int32).toInt = -1 from rfl] at a b c d
  omega
theorem own_lm {t : Nat} (h : t < 1000) : Int32.ofNat t - (1 : Int32) < Int32.ofNat t := by
  have d := c_isub (Int32.ofNat t) 1; have r := rng32 (Int32.ofNat t - 1); have e := own_ti h
  simp only [Int32.reduceToInt] at d
  rw [Int32.lt_iff_toInt_lt]; omega
theorem own_r_le : ∀ k v, own_r k v ≤ k + 1
  | 0, v => by rw [own_r]; omega
  | k + 1, v => by rw [own_r]; have := own_r_le k v; split <;> omega
theorem own_r_ge : ∀ k v, 1 ≤ own_r k v
  | 0, v => by rw [own_r]; exact Nat.le_refl _
  | k + 1, v => by rw [own_r]; have := own_r_ge k v; omega
theorem d3_17 : decode prog_64_method_3_code 17 = .ok (.iload 7, 2) := by decide +kernel
theorem d3_19 : decode prog_64_method_3_code 19 = .ok (.iload_n 3, 1) := by decide +kernel
theorem d3_20 : decode prog_64_method_3_code 20 = .ok (.if_icmp .lt 33, 3) := by decide +kernel
theorem d3_23 : decode prog_64_method_3_code 23 = .ok (.aload_n 2, 1) := by decide +kernel
theorem d3_24 : decode prog_64_method_3_code 24 = .ok (.iload 7, 2) := by decide +kernel
theorem d3_26 : decode prog_64_method_3_code 26 = .ok (.ldc2_w 15, 3) := by decide +kernel
theorem d3_29 : decode prog_64_method_3_code 29 = .ok (.lload 5, 2) := by decide +kernel
theorem d3_31 : decode prog_64_method_3_code 31 = .ok (.ldc2_w 7, 3) := by decide +kernel
theorem d3_34 : decode prog_64_method_3_code 34 = .ok (.lrem, 1) := by decide +kernel
theorem d3_35 : decode prog_64_method_3_code 35 = .ok (.ladd, 1) := by decide +kernel
theorem d3_36 : decode prog_64_method_3_code 36 = .ok (.l2i, 1) := by decide +kernel
theorem d3_37 : decode prog_64_method_3_code 37 = .ok (.i2b, 1) := by decide +kernel
theorem d3_38 : decode prog_64_method_3_code 38 = .ok (.bastore, 1) := by decide +kernel
theorem d3_39 : decode prog_64_method_3_code 39 = .ok (.lload 5, 2) := by decide +kernel
theorem d3_41 : decode prog_64_method_3_code 41 = .ok (.ldc2_w 7, 3) := by decide +kernel
theorem d3_44 : decode prog_64_method_3_code 44 = .ok (.ldiv, 1) := by decide +kernel
theorem d3_45 : decode prog_64_method_3_code 45 = .ok (.lstore 5, 2) := by decide +kernel
theorem d3_47 : decode prog_64_method_3_code 47 = .ok (.iinc 7 (-1), 3) := by decide +kernel
theorem d3_50 : decode prog_64_method_3_code 50 = .ok (.goto (-33), 3) := by decide +kernel
set_option maxRecDepth 65536 in
theorem own_tp {Z : State} {a0 : Array Value} {n0 : Nat} {R : Room} {l : Launch} {Q : Option Value → own_Hs → Prop} {G : Nat → Nat → own_Hs → Nat → List Slot → List Value → Prop} (hw : ∀ d ∈ tables_1, d.before a0 Z = true)
    (C : own_Wk Z n0 R (⟨"com/example/bowerbird/bowerbird/http/server/AsciiDigits", "put", "(J[BI)I"⟩ : MethodName) prog_64_method_3_code 8 (some .int) l Q G) (o : Addr) (v : Int64) (e0 : Addr × own_Ob) (at_ en : Int32) (F : Nat → Int32) (r : Int64) (i : Int32) (hb : ¬ i < at_ → ¬ i < 0 ∧ i.toNatClampNeg < 23) (K0 : i < at_ → G 0 0 [e0, (o, .inl (.byte, (own_arr F)))] 53 [.val (.long v), .second, .val (.ref o), .val (.int at_), .val (.int en), .val (.long r), .second, .val (.int i)] []) (K1 : ¬ i < at_ → G 0 0 [e0, (o, .inl (.byte, (own_arr (own_up F i.toNatClampNeg (own_di r)))))] 17 [.val (.long v), .second, .val (.ref o), .val (.int at_), .val (.int en), .val (.long (r / (10 : Int64))), .second, .val (.int (i + (-1 : Int32)))] []) : G 0 0 [e0, (o, .inl (.byte, (own_arr F)))] 17 [.val (.long v), .second, .val (.ref o), .val (.int at_), .val (.int en), .val (.long r), .second, .val (.int i)] [] := by
  refine C.iload (q := 19) d3_17 rfl rfl ?_
  refine C.iloadN (q := 20) d3_19 rfl rfl ?_
  refine C.icmpLt (q := 53) (q' := 23) d3_20 (by decide) (by decide) rfl (fun h20 => ?_) (fun h20 => ?_)
  · exact K0 h20
  · refine C.aloadN (q := 24) d3_23 rfl rfl rfl ?_
    refine C.iload (q := 26) d3_24 rfl rfl ?_
    refine C.ldc2 (q := 29) (v := (48 : Int64)) d3_26 (hw _ (List.mem_of_getElem? (i := 32) rfl)) rfl ?_
    refine C.lload (q := 31) d3_29 rfl rfl ?_
    refine C.ldc2 (q := 34) (v := (10 : Int64)) d3_31 (hw _ (List.mem_of_getElem? (i := 31) rfl)) rfl ?_
    refine C.lrem (q := 35) d3_34 (by decide) rfl ?_
    refine C.ladd (q := 36) d3_35 rfl ?_
    refine C.l2i (q := 37) d3_36 rfl ?_
    refine C.i2b (q := 38) d3_37 rfl ?_
    refine C.bastore (q := 39) 1 (H' := [e0, (o, .inl (.byte, (own_arr (own_up F i.toNatClampNeg (own_di r)))))]) d3_38 rfl (hb h20).1 (by rw [own_arr_len]; exact (hb h20).2) (by rw [own_nbI, own_arrS]; rfl) rfl ?_
    refine C.lload (q := 41) d3_39 rfl rfl ?_
    refine C.ldc2 (q := 44) (v := (10 : Int64)) d3_41 (hw _ (List.mem_of_getElem? (i := 31) rfl)) rfl ?_
    refine C.ldiv (q := 45) d3_44 (by decide) rfl ?_
    refine C.lstore (q := 47) (ls' := [.val (.long v), .second, .val (.ref o), .val (.int at_), .val (.int en), .val (.long (r / (10 : Int64))), .second, .val (.int i)]) d3_45 rfl rfl ?_
    refine C.iinc (q := 50) (z := (-1 : Int32)) (ls' := [.val (.long v), .second, .val (.ref o), .val (.int at_), .val (.int en), .val (.long (r / (10 : Int64))), .second, .val (.int (i + (-1 : Int32)))]) d3_47 rfl rfl rfl rfl ?_
    refine C.goto (q := 17) d3_50 (by decide) (by decide) ?_
    exact K1 h20
theorem own_lpp {Z : State} {a0 : Array Value} {n0 : Nat} {R : Room} {l : Launch} {Q : Option Value → own_Hs → Prop} {G : Nat → Nat → own_Hs → Nat → List Slot → List Value → Prop} (hw : ∀ d ∈ tables_1, d.before a0 Z = true)
    (C : own_Wk Z n0 R (⟨"com/example/bowerbird/bowerbird/http/server/AsciiDigits", "put", "(J[BI)I"⟩ : MethodName) prog_64_method_3_code 8 (some .int) l Q G) (o : Addr) (v : Int64) (e0 : Addr × own_Ob) (t : Nat) (en : Int32) :
    ∀ (k : Nat) (F : Nat → Int32) (r : Int64), t + k ≤ 23 → (∀ z, G 0 0 [e0, (o, .inl (.byte, (own_arr (own_pt t k r F))))] 53 [.val (.long v), .second, .val (.ref o), .val (.int (Int32.ofNat t)), .val (.int en), .val (.long z), .second, .val (.int (Int32.ofNat t - (1 : Int32)))] []) → G 0 0 [e0, (o, .inl (.byte, (own_arr F)))] 17 [.val (.long v), .second, .val (.ref o), .val (.int (Int32.ofNat t)), .val (.int en), .val (.long r), .second, .val (.int (Int32.ofNat (t + k) - (1 : Int32)))] [] := by
  intro k
  induction k with
  | zero =>
    intro F r ht K
    refine own_tp hw C o v e0 (Int32.ofNat t) en F r (Int32.ofNat (t + 0) - 1) (fun h => absurd (own_lm (by omega)) h) (fun _ => ?_) (fun h => absurd (own_lm (by omega)) h)
    exact K r
  | succ k ih =>
    intro F r ht K
    have e : Int32.ofNat (t + (k + 1)) - 1 = Int32.ofNat (t + k) := own_pr (by omega) (by omega)
    refine own_tp hw C o v e0 (Int32.ofNat t) en F r (Int32.ofNat (t + (k + 1)) - 1) (fun _ => ?_) (fun h => ?_) (fun _ => ?_)
    · rw [e, own_cn (by omega)]; exact ⟨own_nn3 (by omega), by omega⟩
    · rw [e, own_lt (by omega) (by omega)] at h; omega
    · rw [← Nat.add_assoc, own_dn, own_pr (by omega) (by omega), Nat.add_sub_cancel, own_cn (by omega)]
      exact ih (own_up F (t + k) (own_di r)) (r / 10) (by omega) K
theorem d3_0 : decode prog_64_method_3_code 0 = .ok (.iload_n 3, 1) := by decide +kernel
theorem d3_1 : decode prog_64_method_3_code 1 = .ok (.lload_n 0, 1) := by decide +kernel
theorem d3_2 : decode prog_64_method_3_code 2 = .ok (.invokestatic 9, 3) := by decide +kernel
theorem d3_5 : decode prog_64_method_3_code 5 = .ok (.iadd, 1) := by decide +kernel
theorem d3_6 : decode prog_64_method_3_code 6 = .ok (.istore 4, 2) := by decide +kernel
theorem d3_8 : decode prog_64_method_3_code 8 = .ok (.lload_n 0, 1) := by decide +kernel
theorem d3_9 : decode prog_64_method_3_code 9 = .ok (.lstore 5, 2) := by decide +kernel
theorem d3_11 : decode prog_64_method_3_code 11 = .ok (.iload 4, 2) := by decide +kernel
theorem d3_13 : decode prog_64_method_3_code 13 = .ok (.iconst 1, 1) := by decide +kernel
theorem d3_14 : decode prog_64_method_3_code 14 = .ok (.isub, 1) := by decide +kernel
theorem d3_15 : decode prog_64_method_3_code 15 = .ok (.istore 7, 2) := by decide +kernel
theorem d3_53 : decode prog_64_method_3_code 53 = .ok (.iload 4, 2) := by decide +kernel
theorem d3_55 : decode prog_64_method_3_code 55 = .ok (.ireturn, 1) := by decide +kernel
theorem own_pn3 : plainFor (⟨"com/example/bowerbird/bowerbird/http/server/AsciiDigits", "put", "(J[BI)I"⟩ : MethodName) = true := by first | exact plainFor_of_name (by first | (simp [plainName, overriddenIn]; done) | decide +kernel) | decide +kernel
set_option maxHeartbeats 4000000 in
theorem own_ef3 (m : MethodId) (x0 : Int64) (x1 : Addr) (x2 : Int32) : entryFrame m #[.long x0, .ref x1, .int x2] 8 = mkF m 0 #[.val (.long x0), .second, .val (.ref x1), .val (.int x2), .unset, .unset, .unset, .unset] [] := by first | (simp [entryFrame, mkF, argsToLocals, Value.category, maxLocals]; done) | rfl
set_option maxRecDepth 65536 in
set_option maxHeartbeats 40000000 in
theorem own_c3 (l : Launch) (Z : State) (a0 : Array Value) (n0 : Nat) (hw : ∀ d ∈ tables_1, d.before a0 Z = true) (ws : List Jvm.Cond) (o : Addr) (v : Int64) (e0 : Addr × own_Ob) (t : Nat) (F : Nat → Int32) (h0 : 0 ≤ v.toInt) (ht : t ≤ 3) :
    own_Con l Z n0 (⟨"com/example/bowerbird/bowerbird/http/server/AsciiDigits", "put", "(J[BI)I"⟩ : MethodName) prog_64_method_3_code 8 (some .int) ws ({ frames := 1, cells := 0, slots := 0, locals := 24 } : Room) #[.long v, .ref o, .int (Int32.ofNat t)] [e0, (o, .inl (.byte, (own_arr F)))] (fun w H' => w = some (.int (Int32.ofNat (t + (own_r 18 v.toInt.toNat)))) ∧ H' = [e0, (o, .inl (.byte, (own_arr (own_pt t (own_r 18 v.toInt.toNat) v F))))]) := by
  refine own_con own_pn3 (fun m_ => own_ef3 m_ v o (Int32.ofNat t)) ?_
  intro G C
  refine C.iloadN (q := 1) d3_0 rfl rfl ?_
  refine C.lloadN (q := 2) d3_1 rfl rfl ?_
  refine C.callS (q := 5) 1 [.long v] [.int (Int32.ofNat t)] d3_2 (hw _ (List.mem_of_getElem? (i := 28) rfl)) (hw _ (List.mem_of_getElem? (i := 29) rfl)) (hw _ (List.mem_of_getElem? (i := 26) rfl)) (hw _ (List.mem_of_getElem? (i := 30) rfl)) (own_c2 l Z a0 n0 hw [] v [e0, (o, .inl (.byte, (own_arr F)))] h0) (by decide) (by decide) (by decide) own_pd0 rfl rfl rfl (Nat.le_of_eq rfl) (by decide) (by decide) rfl ?_
  rintro _ _ ⟨rfl, hE⟩
  rw [hE]
  show G 0 0 [e0, (o, .inl (.byte, (own_arr F)))] 5 [.val (.long v), .second, .val (.ref o), .val (.int (Int32.ofNat t)), .unset, .unset, .unset, .unset] [.int (Int32.ofNat (own_r 18 v.toInt.toNat)), .int (Int32.ofNat t)]
  refine C.iadd (q := 6) d3_5 rfl ?_
  refine C.istore (q := 8) (ls' := [.val (.long v), .second, .val (.ref o), .val (.int (Int32.ofNat t)), .val (.int ((Int32.ofNat t) + (Int32.ofNat (own_r 18 v.toInt.toNat)))), .unset, .unset, .unset]) d3_6 rfl rfl ?_
  refine C.lloadN (q := 9) d3_8 rfl rfl ?_
  refine C.lstore (q := 11) (ls' := [.val (.long v), .second, .val (.ref o), .val (.int (Int32.ofNat t)), .val (.int ((Int32.ofNat t) + (Int32.ofNat (own_r 18 v.toInt.toNat)))), .val (.long v), .second, .unset]) d3_9 rfl rfl ?_
  refine C.iload (q := 13) d3_11 rfl rfl ?_
  refine C.iconst (q := 14) (z := (1 : Int32)) d3_13 rfl rfl ?_
  refine C.isub (q := 15) d3_14 rfl ?_
  refine C.istore (q := 17) (ls' := [.val (.long v), .second, .val (.ref o), .val (.int (Int32.ofNat t)), .val (.int ((Int32.ofNat t) + (Int32.ofNat (own_r 18 v.toInt.toNat)))), .val (.long v), .second, .val (.int (((Int32.ofNat t) + (Int32.ofNat (own_r 18 v.toInt.toNat))) - (1 : Int32)))]) d3_15 rfl rfl ?_
  rw [← Int32.ofNat_add]
  refine own_lpp hw C o v e0 t (Int32.ofNat (t + (own_r 18 v.toInt.toNat))) (own_r 18 v.toInt.toNat) F v (by have := own_r_le 18 v.toInt.toNat; omega) (fun z => ?_)
  refine C.iload (q := 55) d3_53 rfl rfl ?_
  exact C.retI d3_55 (by decide) (by decide) ⟨rfl, rfl⟩
theorem d4_0 : decode method_2_code 0 = .ok (.lload_n 0, 1) := by decide +kernel
theorem d4_1 : decode method_2_code 1 = .ok (.lload_n 2, 1) := by decide +kernel
theorem d4_2 : decode method_2_code 2 = .ok (.lcmp, 1) := by decide +kernel
theorem d4_3 : decode method_2_code 3 = .ok (.ifCond .lt 7, 3) := by decide +kernel
theorem d4_6 : decode method_2_code 6 = .ok (.iconst 1, 1) := by decide +kernel
theorem d4_7 : decode method_2_code 7 = .ok (.goto 4, 3) := by decide +kernel
theorem d4_10 : decode method_2_code 10 = .ok (.iconst 0, 1) := by decide +kernel
theorem d4_11 : decode method_2_code 11 = .ok (.ireturn, 1) := by decide +kernel
theorem own_pn4 : plainFor (⟨"com/example/bowerbird/bowerbird/http/server/AsciiDigitsPutPinLaw", "ge", "(JJ)I"⟩ : MethodName) = true := by first | exact plainFor_of_name (by first | (simp [plainName, overriddenIn]; done) | decide +kernel) | decide +kernel
set_option maxHeartbeats 4000000 in
theorem own_ef4 (m : MethodId) (x0 : Int64) (x1 : Int64) : entryFrame m #[.long x0, .long x1] 4 = mkF m 0 #[.val (.long x0), .second, .val (.long x1), .second] [] := by first | (simp [entryFrame, mkF, argsToLocals, Value.category, maxLocals]; done) | rfl
set_option maxRecDepth 65536 in
set_option maxHeartbeats 40000000 in
theorem own_c4 (l : Launch) (Z : State) (a0 : Array Value) (n0 : Nat) (hw : ∀ d ∈ tables_1, d.before a0 Z = true) (ws : List Jvm.Cond) (a b : Int64) (H : own_Hs)  :
    own_Con l Z n0 (⟨"com/example/bowerbird/bowerbird/http/server/AsciiDigitsPutPinLaw", "ge", "(JJ)I"⟩ : MethodName) method_2_code 4 (some .int) ws ({ frames := 0, cells := 0, slots := 0, locals := 0 } : Room) #[.long a, .long b] H (fun v H' => v = some (.int (own_ge a b)) ∧ H' = H) := by
  refine own_con own_pn4 (fun m_ => own_ef4 m_ a b) ?_
  intro G C
  refine C.lloadN (q := 1) d4_0 rfl rfl ?_
  refine C.lloadN (q := 2) d4_1 rfl rfl ?_
  refine C.lcmpLt (q := 10) (q' := 6) (q1 := 3) d4_2 rfl d4_3 (by decide) (by decide) rfl (fun h2 => ?_) (fun h2 => ?_)
  · refine C.iconst (q := 11) (z := (0 : Int32)) d4_10 rfl rfl ?_
    exact C.retI d4_11 (by decide) (by decide) ⟨congrArg (fun z => some (Value.int z)) (by first | exact (if_pos h2).symm | exact (if_neg h2).symm), rfl⟩
  · refine C.iconst (q := 7) (z := (1 : Int32)) d4_6 rfl rfl ?_
    refine C.goto (q := 11) d4_7 (by decide) (by decide) ?_
    exact C.retI d4_11 (by decide) (by decide) ⟨congrArg (fun z => some (Value.int z)) (by first | exact (if_pos h2).symm | exact (if_neg h2).symm), rfl⟩
theorem own_pw {k : Nat} (h : k ≤ 18) : ∃ z : Int64, z.toInt = ((10 ^ k : Nat) : Int) ∧ ([.long (1 : Int64), .long (10 : Int64), .long (100 : Int64), .long (1000 : Int64), .long (10000 : Int64), .long (100000 : Int64), .long (1000000 : Int64), .long (10000000 : Int64), .long (100000000 : Int64), .long (1000000000 : Int64), .long (10000000000 : Int64), .long (100000000000 : Int64), .long (1000000000000 : Int64), .long (10000000000000 : Int64), .long (100000000000000 : Int64), .long (1000000000000000 : Int64), .long (10000000000000000 : Int64), .long (100000000000000000 : Int64), .long (1000000000000000000 : Int64)] : List Value)[k]? = some (.long z) := by
  match k, h with
  | 0, _ => exact ⟨1, rfl, rfl⟩
  | 1, _ => exact ⟨10, rfl, rfl⟩
  | 2, _ => exact ⟨100, rfl, rfl⟩
  | 3, _ => exact ⟨1000, rfl, rfl⟩
  | 4, _ => exact ⟨10000, rfl, rfl⟩
  | 5, _ => exact ⟨100000, rfl, rfl⟩
  | 6, _ => exact ⟨1000000, rfl, rfl⟩
  | 7, _ => exact ⟨10000000, rfl, rfl⟩
  | 8, _ => exact ⟨100000000, rfl, rfl⟩
  | 9, _ => exact ⟨1000000000, rfl, rfl⟩
  | 10, _ => exact ⟨10000000000, rfl, rfl⟩
  | 11, _ => exact ⟨100000000000, rfl, rfl⟩
  | 12, _ => exact ⟨1000000000000, rfl, rfl⟩
  | 13, _ => exact ⟨10000000000000, rfl, rfl⟩
  | 14, _ => exact ⟨100000000000000, rfl, rfl⟩
  | 15, _ => exact ⟨1000000000000000, rfl, rfl⟩
  | 16, _ => exact ⟨10000000000000000, rfl, rfl⟩
  | 17, _ => exact ⟨100000000000000000, rfl, rfl⟩
  | 18, _ => exact ⟨1000000000000000000, rfl, rfl⟩
  | n + 19, h => exact absurd h (by omega)
theorem own_dq {v z : Int64} {k : Nat} (h : 0 ≤ v.toInt) (hz : z.toInt = ((10 ^ k : Nat) : Int)) : own_dv k v = v / z := by
  apply Int64.toInt_inj.mp
  have hp : (0 : Int) < ((10 ^ k : Nat) : Int) := by have := Nat.pow_pos (n := k) (show 0 < 10 by decide); omega
  rw [own_dv_toInt k v h, (c_ldiv v z _ hz (fun e => by rw [e] at hz; rw [← hz] at hp; exact absurd hp (by decide))).1 h]
theorem own_z0 {z : Int64} {k : Nat} (hz : z.toInt = ((10 ^ k : Nat) : Int)) : z ≠ 0 := fun e => by
  have hp : (0 : Int) < ((10 ^ k : Nat) : Int) := by have := Nat.pow_pos (n := k) (show 0 < 10 by decide); omega
  rw [← hz, e] at hp; exact absurd hp (by decide)
theorem d5_0 : decode method_3_code 0 = .ok (.iload 7, 2) := by decide +kernel
theorem d5_2 : decode method_3_code 2 = .ok (.iload_n 2, 1) := by decide +kernel
theorem d5_3 : decode method_3_code 3 = .ok (.if_icmp .lt 11, 3) := by decide +kernel
theorem d5_6 : decode method_3_code 6 = .ok (.iload 7, 2) := by decide +kernel
theorem d5_8 : decode method_3_code 8 = .ok (.iload_n 2, 1) := by decide +kernel
theorem d5_9 : decode method_3_code 9 = .ok (.iload_n 3, 1) := by decide +kernel
theorem d5_10 : decode method_3_code 10 = .ok (.iadd, 1) := by decide +kernel
theorem d5_11 : decode method_3_code 11 = .ok (.if_icmp .lt 17, 3) := by decide +kernel
theorem d5_14 : decode method_3_code 14 = .ok (.aload_n 0, 1) := by decide +kernel
theorem d5_15 : decode method_3_code 15 = .ok (.iload 7, 2) := by decide +kernel
theorem d5_17 : decode method_3_code 17 = .ok (.baload, 1) := by decide +kernel
theorem d5_18 : decode method_3_code 18 = .ok (.iload_n 1, 1) := by decide +kernel
theorem d5_19 : decode method_3_code 19 = .ok (.if_icmp .ne 7, 3) := by decide +kernel
theorem d5_22 : decode method_3_code 22 = .ok (.iconst 1, 1) := by decide +kernel
theorem d5_23 : decode method_3_code 23 = .ok (.goto 4, 3) := by decide +kernel
theorem d5_27 : decode method_3_code 27 = .ok (.ireturn, 1) := by decide +kernel
theorem d5_28 : decode method_3_code 28 = .ok (.iload_n 2, 1) := by decide +kernel
theorem d5_29 : decode method_3_code 29 = .ok (.iload_n 3, 1) := by decide +kernel
theorem d5_30 : decode method_3_code 30 = .ok (.iadd, 1) := by decide +kernel
theorem d5_31 : decode method_3_code 31 = .ok (.iconst 1, 1) := by decide +kernel
theorem d5_32 : decode method_3_code 32 = .ok (.isub, 1) := by decide +kernel
theorem d5_33 : decode method_3_code 33 = .ok (.iload 7, 2) := by decide +kernel
theorem d5_35 : decode method_3_code 35 = .ok (.isub, 1) := by decide +kernel
theorem d5_36 : decode method_3_code 36 = .ok (.istore 8, 2) := by decide +kernel
theorem d5_38 : decode method_3_code 38 = .ok (.aload_n 0, 1) := by decide +kernel
theorem d5_39 : decode method_3_code 39 = .ok (.iload 7, 2) := by decide +kernel
theorem d5_41 : decode method_3_code 41 = .ok (.baload, 1) := by decide +kernel
theorem d5_42 : decode method_3_code 42 = .ok (.ldc2_w 7, 3) := by decide +kernel
theorem d5_45 : decode method_3_code 45 = .ok (.lload 4, 2) := by decide +kernel
theorem d5_47 : decode method_3_code 47 = .ok (.aload 6, 2) := by decide +kernel
theorem d5_49 : decode method_3_code 49 = .ok (.iload 8, 2) := by decide +kernel
theorem d5_51 : decode method_3_code 51 = .ok (.laload, 1) := by decide +kernel
theorem d5_52 : decode method_3_code 52 = .ok (.ldiv, 1) := by decide +kernel
theorem d5_53 : decode method_3_code 53 = .ok (.ldc2_w 9, 3) := by decide +kernel
theorem d5_56 : decode method_3_code 56 = .ok (.lrem, 1) := by decide +kernel
theorem d5_57 : decode method_3_code 57 = .ok (.ladd, 1) := by decide +kernel
theorem d5_58 : decode method_3_code 58 = .ok (.l2i, 1) := by decide +kernel
theorem d5_59 : decode method_3_code 59 = .ok (.i2b, 1) := by decide +kernel
theorem d5_60 : decode method_3_code 60 = .ok (.if_icmp .ne 7, 3) := by decide +kernel
theorem d5_63 : decode method_3_code 63 = .ok (.iconst 1, 1) := by decide +kernel
theorem d5_64 : decode method_3_code 64 = .ok (.goto 4, 3) := by decide +kernel
theorem d5_68 : decode method_3_code 68 = .ok (.ireturn, 1) := by decide +kernel
theorem own_pn5 : plainFor (⟨"com/example/bowerbird/bowerbird/http/server/AsciiDigitsPutPinLaw", "cell", "([BBIIJ[JI)Z"⟩ : MethodName) = true := by first | exact plainFor_of_name (by first | (simp [plainName, overriddenIn]; done) | decide +kernel) | decide +kernel
set_option maxHeartbeats 4000000 in
theorem own_ef5 (m : MethodId) (x0 : Addr) (x1 : Int32) (x2 : Int32) (x3 : Int32) (x4 : Int64) (x5 : Addr) (x6 : Int32) : entryFrame m #[.ref x0, .int x1, .int x2, .int x3, .long x4, .ref x5, .int x6] 9 = mkF m 0 #[.val (.ref x0), .val (.int x1), .val (.int x2), .val (.int x3), .val (.long x4), .second, .val (.ref x5), .val (.int x6), .unset] [] := by first | (simp [entryFrame, mkF, argsToLocals, Value.category, maxLocals]; done) | rfl
set_option maxRecDepth 65536 in
set_option maxHeartbeats 40000000 in
theorem own_c5 (l : Launch) (Z : State) (a0 : Array Value) (n0 : Nat) (hw : ∀ d ∈ tables_1, d.before a0 Z = true) (ws : List Jvm.Cond) (o p : Addr) (fb : Int32) (t c : Nat) (v : Int64) (i : Nat) (F : Nat → Int32) (h0 : 0 ≤ v.toInt) (ht : t ≤ 3) (hc1 : 1 ≤ c) (hc2 : c ≤ 19) (hi : i < 23) (hfb : nar .byte fb = fb) (hF : ∀ j, F j = if t ≤ j ∧ j < t + c then own_di (own_dv (t + c - 1 - j) v) else nar .byte fb) :
    own_Con l Z n0 (⟨"com/example/bowerbird/bowerbird/http/server/AsciiDigitsPutPinLaw", "cell", "([BBIIJ[JI)Z"⟩ : MethodName) method_3_code 9 (some .boolean) ws ({ frames := 0, cells := 0, slots := 0, locals := 0 } : Room) #[.ref o, .int fb, .int (Int32.ofNat t), .int (Int32.ofNat c), .long v, .ref p, .int (Int32.ofNat i)] [(p, .inl (.long, [.long (1 : Int64), .long (10 : Int64), .long (100 : Int64), .long (1000 : Int64), .long (10000 : Int64), .long (100000 : Int64), .long (1000000 : Int64), .long (10000000 : Int64), .long (100000000 : Int64), .long (1000000000 : Int64), .long (10000000000 : Int64), .long (100000000000 : Int64), .long (1000000000000 : Int64), .long (10000000000000 : Int64), .long (100000000000000 : Int64), .long (1000000000000000 : Int64), .long (10000000000000000 : Int64), .long (100000000000000000 : Int64), .long (1000000000000000000 : Int64)])), (o, .inl (.byte, (own_arr F)))] (fun w H' => w = some (.int 1) ∧ H' = [(p, .inl (.long, [.long (1 : Int64), .long (10 : Int64), .long (100 : Int64), .long (1000 : Int64), .long (10000 : Int64), .long (100000 : Int64), .long (1000000 : Int64), .long (10000000 : Int64), .long (100000000 : Int64), .long (1000000000 : Int64), .long (10000000000 : Int64), .long (100000000000 : Int64), .long (1000000000000 : Int64), .long (10000000000000 : Int64), .long (100000000000000 : Int64), .long (1000000000000000 : Int64), .long (10000000000000000 : Int64), .long (100000000000000000 : Int64), .long (1000000000000000000 : Int64)])), (o, .inl (.byte, (own_arr F)))]) := by
  refine own_con own_pn5 (fun m_ => own_ef5 m_ o fb (Int32.ofNat t) (Int32.ofNat c) v p (Int32.ofNat i)) ?_
  intro G C
  refine C.iload (q := 2) d5_0 rfl rfl ?_
  refine C.iloadN (q := 3) d5_2 rfl rfl ?_
  refine C.icmpLt (q := 14) (q' := 6) d5_3 (by decide) (by decide) rfl (fun h3 => ?_) (fun h3 => ?_)
  · have hout : ¬ (t ≤ i ∧ i < t + c) := by first | (rw [own_lt (by omega) (by omega)] at h3; omega) | (rw [← Int32.ofNat_add, own_lt (by omega) (by omega)] at h11; omega)
    refine C.aloadN (q := 15) d5_14 rfl rfl rfl ?_
    refine C.iload (q := 17) d5_15 rfl rfl ?_
    refine C.baload (q := 18) 1 (v := .int (F i)) d5_17 rfl (own_nn3 (by omega)) (by rw [own_cn (by omega)]; exact own_arr_at F hi) rfl ?_
    refine C.iloadN (q := 19) d5_18 rfl rfl ?_
    refine C.icmpNe (q := 26) (q' := 22) d5_19 (by decide) (by decide) rfl (fun h19 => ?_) (fun h19 => absurd (by rw [hF i, if_neg hout]; exact hfb) h19)
    refine C.iconst (q := 23) (z := (1 : Int32)) d5_22 rfl rfl ?_
    refine C.goto (q := 27) d5_23 (by decide) (by decide) ?_
    exact C.retB (by simp) d5_27 (by decide) (by decide) ⟨rfl, rfl⟩
  · refine C.iload (q := 8) d5_6 rfl rfl ?_
    refine C.iloadN (q := 9) d5_8 rfl rfl ?_
    refine C.iloadN (q := 10) d5_9 rfl rfl ?_
    refine C.iadd (q := 11) d5_10 rfl ?_
    refine C.icmpLt (q := 28) (q' := 14) d5_11 (by decide) (by decide) rfl (fun h11 => ?_) (fun h11 => ?_)
    · rw [← Int32.ofNat_add, own_lt (by omega) (by omega)] at h11
      rw [own_lt (by omega) (by omega)] at h3
      refine C.iloadN (q := 29) d5_28 rfl rfl ?_
      refine C.iloadN (q := 30) d5_29 rfl rfl ?_
      refine C.iadd (q := 31) d5_30 rfl ?_
      refine C.iconst (q := 32) (z := (1 : Int32)) d5_31 rfl rfl ?_
      refine C.isub (q := 33) d5_32 rfl ?_
      refine C.iload (q := 35) d5_33 rfl rfl ?_
      refine C.isub (q := 36) d5_35 rfl ?_
      refine C.istore (q := 38) (ls' := [.val (.ref o), .val (.int fb), .val (.int (Int32.ofNat t)), .val (.int (Int32.ofNat c)), .val (.long v), .second, .val (.ref p), .val (.int (Int32.ofNat i)), .val (.int ((((Int32.ofNat t) + (Int32.ofNat c)) - (1 : Int32)) - (Int32.ofNat i)))]) d5_36 rfl rfl ?_
      refine C.aloadN (q := 39) d5_38 rfl rfl rfl ?_
      refine C.iload (q := 41) d5_39 rfl rfl ?_
      refine C.baload (q := 42) 1 (v := .int (F i)) d5_41 rfl (own_nn3 (by omega)) (by rw [own_cn (by omega)]; exact own_arr_at F hi) rfl ?_
      refine C.ldc2 (q := 45) (v := (48 : Int64)) d5_42 (hw _ (List.mem_of_getElem? (i := 36) rfl)) rfl ?_
      refine C.lload (q := 47) d5_45 rfl rfl ?_
      refine C.aload (q := 49) d5_47 rfl rfl rfl ?_
      refine C.iload (q := 51) d5_49 rfl rfl ?_
      have ek : ((((Int32.ofNat t) + (Int32.ofNat c)) - (1 : Int32)) - (Int32.ofNat i)) = Int32.ofNat (t + c - 1 - i) := by rw [← Int32.ofNat_add, own_pr (by omega) (by omega), own_sb (by omega) (by omega)]
      obtain ⟨z, hz, hk⟩ := own_pw (k := t + c - 1 - i) (by omega)
      have hk0 : ¬ ((((Int32.ofNat t) + (Int32.ofNat c)) - (1 : Int32)) - (Int32.ofNat i)) < 0 := by rw [ek]; exact own_nn3 (by omega)
      have hk1 : ([.long (1 : Int64), .long (10 : Int64), .long (100 : Int64), .long (1000 : Int64), .long (10000 : Int64), .long (100000 : Int64), .long (1000000 : Int64), .long (10000000 : Int64), .long (100000000 : Int64), .long (1000000000 : Int64), .long (10000000000 : Int64), .long (100000000000 : Int64), .long (1000000000000 : Int64), .long (10000000000000 : Int64), .long (100000000000000 : Int64), .long (1000000000000000 : Int64), .long (10000000000000000 : Int64), .long (100000000000000000 : Int64), .long (1000000000000000000 : Int64)] : List Value)[((((Int32.ofNat t) + (Int32.ofNat c)) - (1 : Int32)) - (Int32.ofNat i)).toNatClampNeg]? = some (.long z) := by rw [ek, own_cn (by omega)]; exact hk
      refine C.laload (q := 52) 0 (v := .long z) d5_51 rfl hk0 hk1 rfl ?_
      refine C.ldiv (q := 53) d5_52 (own_z0 hz) rfl ?_
      refine C.ldc2 (q := 56) (v := (10 : Int64)) d5_53 (hw _ (List.mem_of_getElem? (i := 1) rfl)) rfl ?_
      refine C.lrem (q := 57) d5_56 (by decide) rfl ?_
      refine C.ladd (q := 58) d5_57 rfl ?_
      refine C.l2i (q := 59) d5_58 rfl ?_
      refine C.i2b (q := 60) d5_59 rfl ?_
      refine C.icmpNe (q := 67) (q' := 63) d5_60 (by decide) (by decide) rfl (fun h60 => ?_) (fun h60 => absurd (by rw [hF i, if_pos (by omega), own_dq h0 hz]; rfl) h60)
      refine C.iconst (q := 64) (z := (1 : Int32)) d5_63 rfl rfl ?_
      refine C.goto (q := 68) d5_64 (by decide) (by decide) ?_
      exact C.retB (by simp) d5_68 (by decide) (by decide) ⟨rfl, rfl⟩
    · have hout : ¬ (t ≤ i ∧ i < t + c) := by first | (rw [own_lt (by omega) (by omega)] at h3; omega) | (rw [← Int32.ofNat_add, own_lt (by omega) (by omega)] at h11; omega)
      refine C.aloadN (q := 15) d5_14 rfl rfl rfl ?_
      refine C.iload (q := 17) d5_15 rfl rfl ?_
      refine C.baload (q := 18) 1 (v := .int (F i)) d5_17 rfl (own_nn3 (by omega)) (by rw [own_cn (by omega)]; exact own_arr_at F hi) rfl ?_
      refine C.iloadN (q := 19) d5_18 rfl rfl ?_
      refine C.icmpNe (q := 26) (q' := 22) d5_19 (by decide) (by decide) rfl (fun h19 => ?_) (fun h19 => absurd (by rw [hF i, if_neg hout]; exact hfb) h19)
      refine C.iconst (q := 23) (z := (1 : Int32)) d5_22 rfl rfl ?_
      refine C.goto (q := 27) d5_23 (by decide) (by decide) ?_
      exact C.retB (by simp) d5_27 (by decide) (by decide) ⟨rfl, rfl⟩
theorem own_t3 (a : Int32) : ∃ n : Nat, n ≤ 3 ∧ (a &&& (3 : Int32)) = Int32.ofNat n := by
  have m := c_mask a 3 2 (by decide) (by decide)
  exact ⟨(a &&& (3 : Int32)).toInt.toNat, by omega, own_ofInt (by omega) (by omega)⟩
theorem own_u1 (x : Int64) : 0 ≤ ((x.toUInt64 >>> ((1 : Int32) &&& 0x3f).toInt64.toUInt64).toInt64).toInt := by
  show 0 ≤ (x.toBitVec >>> (((1 : Int32) &&& 0x3f).toInt64.toUInt64.toBitVec % 64#64)).toInt
  rw [BitVec.ushiftRight_eq', show (((1 : Int32) &&& 0x3f).toInt64.toUInt64.toBitVec % 64#64).toNat = 1 from by decide, BitVec.toInt_eq_toNat_cond, BitVec.toNat_ushiftRight, Nat.shiftRight_eq_div_pow]
  have h := x.toBitVec.isLt
  split <;> omega
theorem own_pnlaw : plainFor x = true := by first | exact plainFor_of_name (by first | (simp [plainName, overriddenIn]; done) | decide +kernel) | decide +kernel
set_option maxHeartbeats 4000000 in
theorem own_eflaw (m : MethodId) (x0 : Int64) (x1 : Int32) (x2 : Int32) (x3 : Int32) : entryFrame m #[.long x0, .int x1, .int x2, .int x3] maxLocals = mkF m 0 #[.val (.long x0), .second, .val (.int x1), .val (.int x2), .val (.int x3), .unset, .unset, .unset, .unset, .unset, .unset, .unset, .unset, .unset] [] := by first | (simp [entryFrame, mkF, argsToLocals, Value.category, maxLocals]; done) | rfl
set_option maxRecDepth 65536 in
set_option maxHeartbeats 40000000 in
theorem own_claw (l : Launch) (Z : State) (a0 : Array Value) (n0 : Nat) (hw : ∀ d ∈ tables_1, d.before a0 Z = true) (ws : List Jvm.Cond) (a : Int64) (b c e : Int32)  :
    own_Con l Z n0 x code maxLocals ret ws room_1 #[.long a, .int b, .int c, .int e] [] (fun v _ => v = some (.int 1)) := by
  refine own_con own_pnlaw (fun m_ => own_eflaw m_ a b c e) ?_
  intro G C
  refine C.lloadN (q := 1) at_0 rfl rfl ?_
  refine C.iconst (q := 2) (z := (1 : Int32)) at_1 rfl rfl ?_
  refine C.lushr (q := 3) at_2 rfl ?_
  refine C.iloadN (q := 4) at_3 rfl rfl ?_
  refine C.bipush (q := 6) (z := (63 : Int32)) at_4 rfl rfl ?_
  refine C.iand (q := 7) at_6 rfl ?_
  refine C.lushr (q := 8) at_7 rfl ?_
  refine C.lstore (q := 10) (ls' := [.val (.long a), .second, .val (.int b), .val (.int c), .val (.int e), .val (.long ((((a.toUInt64 >>> ((1 : Int32) &&& 0x3f).toInt64.toUInt64).toInt64).toUInt64 >>> ((b &&& (63 : Int32)) &&& 0x3f).toInt64.toUInt64).toInt64)), .second, .unset, .unset, .unset, .unset, .unset, .unset, .unset]) at_8 rfl rfl ?_
  generalize hv : ((((a.toUInt64 >>> ((1 : Int32) &&& 0x3f).toInt64.toUInt64).toInt64).toUInt64 >>> ((b &&& (63 : Int32)) &&& 0x3f).toInt64.toUInt64).toInt64) = v
  have hv0 : 0 ≤ v.toInt := by rw [← hv]; exact own_ush (own_u1 a) _
  refine C.iloadN (q := 11) at_10 rfl rfl ?_
  refine C.iconst (q := 12) (z := (3 : Int32)) at_11 rfl rfl ?_
  refine C.iand (q := 13) at_12 rfl ?_
  obtain ⟨t, ht, et⟩ := own_t3 c
  rw [et]
  refine C.istore (q := 15) (ls' := [.val (.long a), .second, .val (.int b), .val (.int c), .val (.int e), .val (.long v), .second, .val (.int (Int32.ofNat t)), .unset, .unset, .unset, .unset, .unset, .unset]) at_13 rfl rfl ?_
  refine C.iload (q := 17) at_15 rfl rfl ?_
  refine C.i2b (q := 18) at_17 rfl ?_
  refine C.istore (q := 20) (ls' := [.val (.long a), .second, .val (.int b), .val (.int c), .val (.int e), .val (.long v), .second, .val (.int (Int32.ofNat t)), .val (.int e.toInt8.toInt32), .unset, .unset, .unset, .unset, .unset]) at_18 rfl rfl ?_
  have hfb : nar .byte e.toInt8.toInt32 = e.toInt8.toInt32 := own_nbI e
  refine C.bipush (q := 22) (z := (19 : Int32)) at_20 rfl rfl ?_
  refine C.newarr (q := 24) 19 (ty := .long) (vs := [.long (0 : Int64), .long (0 : Int64), .long (0 : Int64), .long (0 : Int64), .long (0 : Int64), .long (0 : Int64), .long (0 : Int64), .long (0 : Int64), .long (0 : Int64), .long (0 : Int64), .long (0 : Int64), .long (0 : Int64), .long (0 : Int64), .long (0 : Int64), .long (0 : Int64), .long (0 : Int64), .long (0 : Int64), .long (0 : Int64), .long (0 : Int64)]) (k' := 1) (n' := 19) at_22 (hw _ (List.mem_of_getElem? (i := 0) rfl)) (by decide) (by decide) (by decide) (by decide) (by decide) rfl rfl rfl rfl rfl (fun a22 => ?_)
  show G 1 19 [(a22, .inl (.long, [.long (0 : Int64), .long (0 : Int64), .long (0 : Int64), .long (0 : Int64), .long (0 : Int64), .long (0 : Int64), .long (0 : Int64), .long (0 : Int64), .long (0 : Int64), .long (0 : Int64), .long (0 : Int64), .long (0 : Int64), .long (0 : Int64), .long (0 : Int64), .long (0 : Int64), .long (0 : Int64), .long (0 : Int64), .long (0 : Int64), .long (0 : Int64)]))] 24 [.val (.long a), .second, .val (.int b), .val (.int c), .val (.int e), .val (.long v), .second, .val (.int (Int32.ofNat t)), .val (.int e.toInt8.toInt32), .unset, .unset, .unset, .unset, .unset] [.ref a22]
  refine C.dup (q := 25) at_24 rfl rfl ?_
  refine C.iconst (q := 26) (z := (0 : Int32)) at_25 rfl rfl ?_
  refine C.lconst (q := 27) (z := (1 : Int64)) at_26 rfl rfl ?_
  refine C.lastore (q := 28) 0 (H' := [(a22, .inl (.long, [.long (1 : Int64), .long (0 : Int64), .long (0 : Int64), .long (0 : Int64), .long (0 : Int64), .long (0 : Int64), .long (0 : Int64), .long (0 : Int64), .long (0 : Int64), .long (0 : Int64), .long (0 : Int64), .long (0 : Int64), .long (0 : Int64), .long (0 : Int64), .long (0 : Int64), .long (0 : Int64), .long (0 : Int64), .long (0 : Int64), .long (0 : Int64)]))]) at_27 rfl (by decide) (by show _ < 19; decide) rfl rfl ?_
  refine C.dup (q := 29) at_28 rfl rfl ?_
  refine C.iconst (q := 30) (z := (1 : Int32)) at_29 rfl rfl ?_
  refine C.ldc2 (q := 33) (v := (10 : Int64)) at_30 (hw _ (List.mem_of_getElem? (i := 1) rfl)) rfl ?_
  refine C.lastore (q := 34) 0 (H' := [(a22, .inl (.long, [.long (1 : Int64), .long (10 : Int64), .long (0 : Int64), .long (0 : Int64), .long (0 : Int64), .long (0 : Int64), .long (0 : Int64), .long (0 : Int64), .long (0 : Int64), .long (0 : Int64), .long (0 : Int64), .long (0 : Int64), .long (0 : Int64), .long (0 : Int64), .long (0 : Int64), .long (0 : Int64), .long (0 : Int64), .long (0 : Int64), .long (0 : Int64)]))]) at_33 rfl (by decide) (by show _ < 19; decide) rfl rfl ?_
  refine C.dup (q := 35) at_34 rfl rfl ?_
  refine C.iconst (q := 36) (z := (2 : Int32)) at_35 rfl rfl ?_
  refine C.ldc2 (q := 39) (v := (100 : Int64)) at_36 (hw _ (List.mem_of_getElem? (i := 2) rfl)) rfl ?_
  refine C.lastore (q := 40) 0 (H' := [(a22, .inl (.long, [.long (1 : Int64), .long (10 : Int64), .long (100 : Int64), .long (0 : Int64), .long (0 : Int64), .long (0 : Int64), .long (0 : Int64), .long (0 : Int64), .long (0 : Int64), .long (0 : Int64), .long (0 : Int64), .long (0 : Int64), .long (0 : Int64), .long (0 : Int64), .long (0 : Int64), .long (0 : Int64), .long (0 : Int64), .long (0 : Int64), .long (0 : Int64)]))]) at_39 rfl (by decide) (by show _ < 19; decide) rfl rfl ?_
  refine C.dup (q := 41) at_40 rfl rfl ?_
  refine C.iconst (q := 42) (z := (3 : Int32)) at_41 rfl rfl ?_
  refine C.ldc2 (q := 45) (v := (1000 : Int64)) at_42 (hw _ (List.mem_of_getElem? (i := 3) rfl)) rfl ?_
  refine C.lastore (q := 46) 0 (H' := [(a22, .inl (.long, [.long (1 : Int64), .long (10 : Int64), .long (100 : Int64), .long (1000 : Int64), .long (0 : Int64), .long (0 : Int64), .long (0 : Int64), .long (0 : Int64), .long (0 : Int64), .long (0 : Int64), .long (0 : Int64), .long (0 : Int64), .long (0 : Int64), .long (0 : Int64), .long (0 : Int64), .long (0 : Int64), .long (0 : Int64), .long (0 : Int64), .long (0 : Int64)]))]) at_45 rfl (by decide) (by show _ < 19; decide) rfl rfl ?_
  refine C.dup (q := 47) at_46 rfl rfl ?_
  refine C.iconst (q := 48) (z := (4 : Int32)) at_47 rfl rfl ?_
  refine C.ldc2 (q := 51) (v := (10000 : Int64)) at_48 (hw _ (List.mem_of_getElem? (i := 4) rfl)) rfl ?_
  refine C.lastore (q := 52) 0 (H' := [(a22, .inl (.long, [.long (1 : Int64), .long (10 : Int64), .long (100 : Int64), .long (1000 : Int64), .long (10000 : Int64), .long (0 : Int64), .long (0 : Int64), .long (0 : Int64), .long (0 : Int64), .long (0 : Int64), .long (0 : Int64), .long (0 : Int64), .long (0 : Int64), .long (0 : Int64), .long (0 : Int64), .long (0 : Int64), .long (0 : Int64), .long (0 : Int64), .long (0 : Int64)]))]) at_51 rfl (by decide) (by show _ < 19; decide) rfl rfl ?_
  refine C.dup (q := 53) at_52 rfl rfl ?_
  refine C.iconst (q := 54) (z := (5 : Int32)) at_53 rfl rfl ?_
  refine C.ldc2 (q := 57) (v := (100000 : Int64)) at_54 (hw _ (List.mem_of_getElem? (i := 5) rfl)) rfl ?_
  refine C.lastore (q := 58) 0 (H' := [(a22, .inl (.long, [.long (1 : Int64), .long (10 : Int64), .long (100 : Int64), .long (1000 : Int64), .long (10000 : Int64), .long (100000 : Int64), .long (0 : Int64), .long (0 : Int64), .long (0 : Int64), .long (0 : Int64), .long (0 : Int64), .long (0 : Int64), .long (0 : Int64), .long (0 : Int64), .long (0 : Int64), .long (0 : Int64), .long (0 : Int64), .long (0 : Int64), .long (0 : Int64)]))]) at_57 rfl (by decide) (by show _ < 19; decide) rfl rfl ?_
  refine C.dup (q := 59) at_58 rfl rfl ?_
  refine C.bipush (q := 61) (z := (6 : Int32)) at_59 rfl rfl ?_
  refine C.ldc2 (q := 64) (v := (1000000 : Int64)) at_61 (hw _ (List.mem_of_getElem? (i := 6) rfl)) rfl ?_
  refine C.lastore (q := 65) 0 (H' := [(a22, .inl (.long, [.long (1 : Int64), .long (10 : Int64), .long (100 : Int64), .long (1000 : Int64), .long (10000 : Int64), .long (100000 : Int64), .long (1000000 : Int64), .long (0 : Int64), .long (0 : Int64), .long (0 : Int64), .long (0 : Int64), .long (0 : Int64), .long (0 : Int64), .long (0 : Int64), .long (0 : Int64), .long (0 : Int64), .long (0 : Int64), .long (0 : Int64), .long (0 : Int64)]))]) at_64 rfl (by decide) (by show _ < 19; decide) rfl rfl ?_
  refine C.dup (q := 66) at_65 rfl rfl ?_
  refine C.bipush (q := 68) (z := (7 : Int32)) at_66 rfl rfl ?_
  refine C.ldc2 (q := 71) (v := (10000000 : Int64)) at_68 (hw _ (List.mem_of_getElem? (i := 7) rfl)) rfl ?_
  refine C.lastore (q := 72) 0 (H' := [(a22, .inl (.long, [.long (1 : Int64), .long (10 : Int64), .long (100 : Int64), .long (1000 : Int64), .long (10000 : Int64), .long (100000 : Int64), .long (1000000 : Int64), .long (10000000 : Int64), .long (0 : Int64), .long (0 : Int64), .long (0 : Int64), .long (0 : Int64), .long (0 : Int64), .long (0 : Int64), .long (0 : Int64), .long (0 : Int64), .long (0 : Int64), .long (0 : Int64), .long (0 : Int64)]))]) at_71 rfl (by decide) (by show _ < 19; decide) rfl rfl ?_
  refine C.dup (q := 73) at_72 rfl rfl ?_
  refine C.bipush (q := 75) (z := (8 : Int32)) at_73 rfl rfl ?_
  refine C.ldc2 (q := 78) (v := (100000000 : Int64)) at_75 (hw _ (List.mem_of_getElem? (i := 8) rfl)) rfl ?_
  refine C.lastore (q := 79) 0 (H' := [(a22, .inl (.long, [.long (1 : Int64), .long (10 : Int64), .long (100 : Int64), .long (1000 : Int64), .long (10000 : Int64), .long (100000 : Int64), .long (1000000 : Int64), .long (10000000 : Int64), .long (100000000 : Int64), .long (0 : Int64), .long (0 : Int64), .long (0 : Int64), .long (0 : Int64), .long (0 : Int64), .long (0 : Int64), .long (0 : Int64), .long (0 : Int64), .long (0 : Int64), .long (0 : Int64)]))]) at_78 rfl (by decide) (by show _ < 19; decide) rfl rfl ?_
  refine C.dup (q := 80) at_79 rfl rfl ?_
  refine C.bipush (q := 82) (z := (9 : Int32)) at_80 rfl rfl ?_
  refine C.ldc2 (q := 85) (v := (1000000000 : Int64)) at_82 (hw _ (List.mem_of_getElem? (i := 9) rfl)) rfl ?_
  refine C.lastore (q := 86) 0 (H' := [(a22, .inl (.long, [.long (1 : Int64), .long (10 : Int64), .long (100 : Int64), .long (1000 : Int64), .long (10000 : Int64), .long (100000 : Int64), .long (1000000 : Int64), .long (10000000 : Int64), .long (100000000 : Int64), .long (1000000000 : Int64), .long (0 : Int64), .long (0 : Int64), .long (0 : Int64), .long (0 : Int64), .long (0 : Int64), .long (0 : Int64), .long (0 : Int64), .long (0 : Int64), .long (0 : Int64)]))]) at_85 rfl (by decide) (by show _ < 19; decide) rfl rfl ?_
  refine C.dup (q := 87) at_86 rfl rfl ?_
  refine C.bipush (q := 89) (z := (10 : Int32)) at_87 rfl rfl ?_
  refine C.ldc2 (q := 92) (v := (10000000000 : Int64)) at_89 (hw _ (List.mem_of_getElem? (i := 10) rfl)) rfl ?_
  refine C.lastore (q := 93) 0 (H' := [(a22, .inl (.long, [.long (1 : Int64), .long (10 : Int64), .long (100 : Int64), .long (1000 : Int64), .long (10000 : Int64), .long (100000 : Int64), .long (1000000 : Int64), .long (10000000 : Int64), .long (100000000 : Int64), .long (1000000000 : Int64), .long (10000000000 : Int64), .long (0 : Int64), .long (0 : Int64), .long (0 : Int64), .long (0 : Int64), .long (0 : Int64), .long (0 : Int64), .long (0 : Int64), .long (0 : Int64)]))]) at_92 rfl (by decide) (by show _ < 19; decide) rfl rfl ?_
  refine C.dup (q := 94) at_93 rfl rfl ?_
  refine C.bipush (q := 96) (z := (11 : Int32)) at_94 rfl rfl ?_
  refine C.ldc2 (q := 99) (v := (100000000000 : Int64)) at_96 (hw _ (List.mem_of_getElem? (i := 11) rfl)) rfl ?_
  refine C.lastore (q := 100) 0 (H' := [(a22, .inl (.long, [.long (1 : Int64), .long (10 : Int64), .long (100 : Int64), .long (1000 : Int64), .long (10000 : Int64), .long (100000 : Int64), .long (1000000 : Int64), .long (10000000 : Int64), .long (100000000 : Int64), .long (1000000000 : Int64), .long (10000000000 : Int64), .long (100000000000 : Int64), .long (0 : Int64), .long (0 : Int64), .long (0 : Int64), .long (0 : Int64), .long (0 : Int64), .long (0 : Int64), .long (0 : Int64)]))]) at_99 rfl (by decide) (by show _ < 19; decide) rfl rfl ?_
  refine C.dup (q := 101) at_100 rfl rfl ?_
  refine C.bipush (q := 103) (z := (12 : Int32)) at_101 rfl rfl ?_
  refine C.ldc2 (q := 106) (v := (1000000000000 : Int64)) at_103 (hw _ (List.mem_of_getElem? (i := 12) rfl)) rfl ?_
  refine C.lastore (q := 107) 0 (H' := [(a22, .inl (.long, [.long (1 : Int64), .long (10 : Int64), .long (100 : Int64), .long (1000 : Int64), .long (10000 : Int64), .long (100000 : Int64), .long (1000000 : Int64), .long (10000000 : Int64), .long (100000000 : Int64), .long (1000000000 : Int64), .long (10000000000 : Int64), .long (100000000000 : Int64), .long (1000000000000 : Int64), .long (0 : Int64), .long (0 : Int64), .long (0 : Int64), .long (0 : Int64), .long (0 : Int64), .long (0 : Int64)]))]) at_106 rfl (by decide) (by show _ < 19; decide) rfl rfl ?_
  refine C.dup (q := 108) at_107 rfl rfl ?_
  refine C.bipush (q := 110) (z := (13 : Int32)) at_108 rfl rfl ?_
  refine C.ldc2 (q := 113) (v := (10000000000000 : Int64)) at_110 (hw _ (List.mem_of_getElem? (i := 13) rfl)) rfl ?_
  refine C.lastore (q := 114) 0 (H' := [(a22, .inl (.long, [.long (1 : Int64), .long (10 : Int64), .long (100 : Int64), .long (1000 : Int64), .long (10000 : Int64), .long (100000 : Int64), .long (1000000 : Int64), .long (10000000 : Int64), .long (100000000 : Int64), .long (1000000000 : Int64), .long (10000000000 : Int64), .long (100000000000 : Int64), .long (1000000000000 : Int64), .long (10000000000000 : Int64), .long (0 : Int64), .long (0 : Int64), .long (0 : Int64), .long (0 : Int64), .long (0 : Int64)]))]) at_113 rfl (by decide) (by show _ < 19; decide) rfl rfl ?_
  refine C.dup (q := 115) at_114 rfl rfl ?_
  refine C.bipush (q := 117) (z := (14 : Int32)) at_115 rfl rfl ?_
  refine C.ldc2 (q := 120) (v := (100000000000000 : Int64)) at_117 (hw _ (List.mem_of_getElem? (i := 14) rfl)) rfl ?_
  refine C.lastore (q := 121) 0 (H' := [(a22, .inl (.long, [.long (1 : Int64), .long (10 : Int64), .long (100 : Int64), .long (1000 : Int64), .long (10000 : Int64), .long (100000 : Int64), .long (1000000 : Int64), .long (10000000 : Int64), .long (100000000 : Int64), .long (1000000000 : Int64), .long (10000000000 : Int64), .long (100000000000 : Int64), .long (1000000000000 : Int64), .long (10000000000000 : Int64), .long (100000000000000 : Int64), .long (0 : Int64), .long (0 : Int64), .long (0 : Int64), .long (0 : Int64)]))]) at_120 rfl (by decide) (by show _ < 19; decide) rfl rfl ?_
  refine C.dup (q := 122) at_121 rfl rfl ?_
  refine C.bipush (q := 124) (z := (15 : Int32)) at_122 rfl rfl ?_
  refine C.ldc2 (q := 127) (v := (1000000000000000 : Int64)) at_124 (hw _ (List.mem_of_getElem? (i := 15) rfl)) rfl ?_
  refine C.lastore (q := 128) 0 (H' := [(a22, .inl (.long, [.long (1 : Int64), .long (10 : Int64), .long (100 : Int64), .long (1000 : Int64), .long (10000 : Int64), .long (100000 : Int64), .long (1000000 : Int64), .long (10000000 : Int64), .long (100000000 : Int64), .long (1000000000 : Int64), .long (10000000000 : Int64), .long (100000000000 : Int64), .long (1000000000000 : Int64), .long (10000000000000 : Int64), .long (100000000000000 : Int64), .long (1000000000000000 : Int64), .long (0 : Int64), .long (0 : Int64), .long (0 : Int64)]))]) at_127 rfl (by decide) (by show _ < 19; decide) rfl rfl ?_
  refine C.dup (q := 129) at_128 rfl rfl ?_
  refine C.bipush (q := 131) (z := (16 : Int32)) at_129 rfl rfl ?_
  refine C.ldc2 (q := 134) (v := (10000000000000000 : Int64)) at_131 (hw _ (List.mem_of_getElem? (i := 16) rfl)) rfl ?_
  refine C.lastore (q := 135) 0 (H' := [(a22, .inl (.long, [.long (1 : Int64), .long (10 : Int64), .long (100 : Int64), .long (1000 : Int64), .long (10000 : Int64), .long (100000 : Int64), .long (1000000 : Int64), .long (10000000 : Int64), .long (100000000 : Int64), .long (1000000000 : Int64), .long (10000000000 : Int64), .long (100000000000 : Int64), .long (1000000000000 : Int64), .long (10000000000000 : Int64), .long (100000000000000 : Int64), .long (1000000000000000 : Int64), .long (10000000000000000 : Int64), .long (0 : Int64), .long (0 : Int64)]))]) at_134 rfl (by decide) (by show _ < 19; decide) rfl rfl ?_
  refine C.dup (q := 136) at_135 rfl rfl ?_
  refine C.bipush (q := 138) (z := (17 : Int32)) at_136 rfl rfl ?_
  refine C.ldc2 (q := 141) (v := (100000000000000000 : Int64)) at_138 (hw _ (List.mem_of_getElem? (i := 17) rfl)) rfl ?_
  refine C.lastore (q := 142) 0 (H' := [(a22, .inl (.long, [.long (1 : Int64), .long (10 : Int64), .long (100 : Int64), .long (1000 : Int64), .long (10000 : Int64), .long (100000 : Int64), .long (1000000 : Int64), .long (10000000 : Int64), .long (100000000 : Int64), .long (1000000000 : Int64), .long (10000000000 : Int64), .long (100000000000 : Int64), .long (1000000000000 : Int64), .long (10000000000000 : Int64), .long (100000000000000 : Int64), .long (1000000000000000 : Int64), .long (10000000000000000 : Int64), .long (100000000000000000 : Int64), .long (0 : Int64)]))]) at_141 rfl (by decide) (by show _ < 19; decide) rfl rfl ?_
  refine C.dup (q := 143) at_142 rfl rfl ?_
  refine C.bipush (q := 145) (z := (18 : Int32)) at_143 rfl rfl ?_
  refine C.ldc2 (q := 148) (v := (1000000000000000000 : Int64)) at_145 (hw _ (List.mem_of_getElem? (i := 18) rfl)) rfl ?_
  refine C.lastore (q := 149) 0 (H' := [(a22, .inl (.long, [.long (1 : Int64), .long (10 : Int64), .long (100 : Int64), .long (1000 : Int64), .long (10000 : Int64), .long (100000 : Int64), .long (1000000 : Int64), .long (10000000 : Int64), .long (100000000 : Int64), .long (1000000000 : Int64), .long (10000000000 : Int64), .long (100000000000 : Int64), .long (1000000000000 : Int64), .long (10000000000000 : Int64), .long (100000000000000 : Int64), .long (1000000000000000 : Int64), .long (10000000000000000 : Int64), .long (100000000000000000 : Int64), .long (1000000000000000000 : Int64)]))]) at_148 rfl (by decide) (by show _ < 19; decide) rfl rfl ?_
  refine C.astore (q := 151) (ls' := [.val (.long a), .second, .val (.int b), .val (.int c), .val (.int e), .val (.long v), .second, .val (.int (Int32.ofNat t)), .val (.int e.toInt8.toInt32), .val (.ref a22), .unset, .unset, .unset, .unset]) at_149 rfl rfl rfl ?_
  have en0 : (1 : Int32) = Int32.ofNat (own_r 0 v.toInt.toNat) := rfl
  refine C.iconst (q := 152) (z := (1 : Int32)) at_151 rfl rfl ?_
  refine C.lload (q := 154) at_152 rfl rfl ?_
  refine C.aload (q := 156) at_154 rfl rfl rfl ?_
  refine C.iconst (q := 157) (z := (1 : Int32)) at_156 rfl rfl ?_
  refine C.laload (q := 158) 0 (v := .long (10 : Int64)) at_157 rfl (by decide) rfl rfl ?_
  refine C.callS (q := 161) 1 [.long v, .long (10 : Int64)] [.int (1 : Int32)] at_158 (hw _ (List.mem_of_getElem? (i := 19) rfl)) (hw _ (List.mem_of_getElem? (i := 20) rfl)) (hw _ (List.mem_of_getElem? (i := 21) rfl)) (hw _ (List.mem_of_getElem? (i := 22) rfl)) (own_c4 l Z a0 n0 hw [] v (10 : Int64) [(a22, .inl (.long, [.long (1 : Int64), .long (10 : Int64), .long (100 : Int64), .long (1000 : Int64), .long (10000 : Int64), .long (100000 : Int64), .long (1000000 : Int64), .long (10000000 : Int64), .long (100000000 : Int64), .long (1000000000 : Int64), .long (10000000000 : Int64), .long (100000000000 : Int64), .long (1000000000000 : Int64), .long (10000000000000 : Int64), .long (100000000000000 : Int64), .long (1000000000000000 : Int64), .long (10000000000000000 : Int64), .long (100000000000000000 : Int64), .long (1000000000000000000 : Int64)]))]) (by decide) (by decide) (by decide) own_pd1 rfl rfl rfl (Nat.le_of_eq rfl) (by decide) (by decide) rfl ?_
  rintro _ _ ⟨rfl, hE⟩
  rw [hE]
  show G 1 19 [(a22, .inl (.long, [.long (1 : Int64), .long (10 : Int64), .long (100 : Int64), .long (1000 : Int64), .long (10000 : Int64), .long (100000 : Int64), .long (1000000 : Int64), .long (10000000 : Int64), .long (100000000 : Int64), .long (1000000000 : Int64), .long (10000000000 : Int64), .long (100000000000 : Int64), .long (1000000000000 : Int64), .long (10000000000000 : Int64), .long (100000000000000 : Int64), .long (1000000000000000 : Int64), .long (10000000000000000 : Int64), .long (100000000000000000 : Int64), .long (1000000000000000000 : Int64)]))] 161 [.val (.long a), .second, .val (.int b), .val (.int c), .val (.int e), .val (.long v), .second, .val (.int (Int32.ofNat t)), .val (.int e.toInt8.toInt32), .val (.ref a22), .unset, .unset, .unset, .unset] [.int (own_ge v (10 : Int64)), .int (1 : Int32)]
  refine C.iadd (q := 162) at_161 rfl ?_
  generalize hn1 : ((1 : Int32) + (own_ge v (10 : Int64))) = n1
  have en1 := own_sg (k := 0) hv0 rfl en0 hn1
  refine C.lload (q := 164) at_162 rfl rfl ?_
  refine C.aload (q := 166) at_164 rfl rfl rfl ?_
  refine C.iconst (q := 167) (z := (2 : Int32)) at_166 rfl rfl ?_
  refine C.laload (q := 168) 0 (v := .long (100 : Int64)) at_167 rfl (by decide) rfl rfl ?_
  refine C.callS (q := 171) 1 [.long v, .long (100 : Int64)] [.int n1] at_168 (hw _ (List.mem_of_getElem? (i := 19) rfl)) (hw _ (List.mem_of_getElem? (i := 20) rfl)) (hw _ (List.mem_of_getElem? (i := 21) rfl)) (hw _ (List.mem_of_getElem? (i := 22) rfl)) (own_c4 l Z a0 n0 hw [] v (100 : Int64) [(a22, .inl (.long, [.long (1 : Int64), .long (10 : Int64), .long (100 : Int64), .long (1000 : Int64), .long (10000 : Int64), .long (100000 : Int64), .long (1000000 : Int64), .long (10000000 : Int64), .long (100000000 : Int64), .long (1000000000 : Int64), .long (10000000000 : Int64), .long (100000000000 : Int64), .long (1000000000000 : Int64), .long (10000000000000 : Int64), .long (100000000000000 : Int64), .long (1000000000000000 : Int64), .long (10000000000000000 : Int64), .long (100000000000000000 : Int64), .long (1000000000000000000 : Int64)]))]) (by decide) (by decide) (by decide) own_pd1 rfl rfl rfl (Nat.le_of_eq rfl) (by decide) (by decide) rfl ?_
  rintro _ _ ⟨rfl, hE⟩
  rw [hE]
  show G 1 19 [(a22, .inl (.long, [.long (1 : Int64), .long (10 : Int64), .long (100 : Int64), .long (1000 : Int64), .long (10000 : Int64), .long (100000 : Int64), .long (1000000 : Int64), .long (10000000 : Int64), .long (100000000 : Int64), .long (1000000000 : Int64), .long (10000000000 : Int64), .long (100000000000 : Int64), .long (1000000000000 : Int64), .long (10000000000000 : Int64), .long (100000000000000 : Int64), .long (1000000000000000 : Int64), .long (10000000000000000 : Int64), .long (100000000000000000 : Int64), .long (1000000000000000000 : Int64)]))] 171 [.val (.long a), .second, .val (.int b), .val (.int c), .val (.int e), .val (.long v), .second, .val (.int (Int32.ofNat t)), .val (.int e.toInt8.toInt32), .val (.ref a22), .unset, .unset, .unset, .unset] [.int (own_ge v (100 : Int64)), .int n1]
  refine C.iadd (q := 172) at_171 rfl ?_
  generalize hn2 : (n1 + (own_ge v (100 : Int64))) = n2
  have en2 := own_sg (k := 1) hv0 rfl en1 hn2
  refine C.lload (q := 174) at_172 rfl rfl ?_
  refine C.aload (q := 176) at_174 rfl rfl rfl ?_
  refine C.iconst (q := 177) (z := (3 : Int32)) at_176 rfl rfl ?_
  refine C.laload (q := 178) 0 (v := .long (1000 : Int64)) at_177 rfl (by decide) rfl rfl ?_
  refine C.callS (q := 181) 1 [.long v, .long (1000 : Int64)] [.int n2] at_178 (hw _ (List.mem_of_getElem? (i := 19) rfl)) (hw _ (List.mem_of_getElem? (i := 20) rfl)) (hw _ (List.mem_of_getElem? (i := 21) rfl)) (hw _ (List.mem_of_getElem? (i := 22) rfl)) (own_c4 l Z a0 n0 hw [] v (1000 : Int64) [(a22, .inl (.long, [.long (1 : Int64), .long (10 : Int64), .long (100 : Int64), .long (1000 : Int64), .long (10000 : Int64), .long (100000 : Int64), .long (1000000 : Int64), .long (10000000 : Int64), .long (100000000 : Int64), .long (1000000000 : Int64), .long (10000000000 : Int64), .long (100000000000 : Int64), .long (1000000000000 : Int64), .long (10000000000000 : Int64), .long (100000000000000 : Int64), .long (1000000000000000 : Int64), .long (10000000000000000 : Int64), .long (100000000000000000 : Int64), .long (1000000000000000000 : Int64)]))]) (by decide) (by decide) (by decide) own_pd1 rfl rfl rfl (Nat.le_of_eq rfl) (by decide) (by decide) rfl ?_
  rintro _ _ ⟨rfl, hE⟩
  rw [hE]
  show G 1 19 [(a22, .inl (.long, [.long (1 : Int64), .long (10 : Int64), .long (100 : Int64), .long (1000 : Int64), .long (10000 : Int64), .long (100000 : Int64), .long (1000000 : Int64), .long (10000000 : Int64), .long (100000000 : Int64), .long (1000000000 : Int64), .long (10000000000 : Int64), .long (100000000000 : Int64), .long (1000000000000 : Int64), .long (10000000000000 : Int64), .long (100000000000000 : Int64), .long (1000000000000000 : Int64), .long (10000000000000000 : Int64), .long (100000000000000000 : Int64), .long (1000000000000000000 : Int64)]))] 181 [.val (.long a), .second, .val (.int b), .val (.int c), .val (.int e), .val (.long v), .second, .val (.int (Int32.ofNat t)), .val (.int e.toInt8.toInt32), .val (.ref a22), .unset, .unset, .unset, .unset] [.int (own_ge v (1000 : Int64)), .int n2]
  refine C.iadd (q := 182) at_181 rfl ?_
  generalize hn3 : (n2 + (own_ge v (1000 : Int64))) = n3
  have en3 := own_sg (k := 2) hv0 rfl en2 hn3
  refine C.lload (q := 184) at_182 rfl rfl ?_
  refine C.aload (q := 186) at_184 rfl rfl rfl ?_
  refine C.iconst (q := 187) (z := (4 : Int32)) at_186 rfl rfl ?_
  refine C.laload (q := 188) 0 (v := .long (10000 : Int64)) at_187 rfl (by decide) rfl rfl ?_
  refine C.callS (q := 191) 1 [.long v, .long (10000 : Int64)] [.int n3] at_188 (hw _ (List.mem_of_getElem? (i := 19) rfl)) (hw _ (List.mem_of_getElem? (i := 20) rfl)) (hw _ (List.mem_of_getElem? (i := 21) rfl)) (hw _ (List.mem_of_getElem? (i := 22) rfl)) (own_c4 l Z a0 n0 hw [] v (10000 : Int64) [(a22, .inl (.long, [.long (1 : Int64), .long (10 : Int64), .long (100 : Int64), .long (1000 : Int64), .long (10000 : Int64), .long (100000 : Int64), .long (1000000 : Int64), .long (10000000 : Int64), .long (100000000 : Int64), .long (1000000000 : Int64), .long (10000000000 : Int64), .long (100000000000 : Int64), .long (1000000000000 : Int64), .long (10000000000000 : Int64), .long (100000000000000 : Int64), .long (1000000000000000 : Int64), .long (10000000000000000 : Int64), .long (100000000000000000 : Int64), .long (1000000000000000000 : Int64)]))]) (by decide) (by decide) (by decide) own_pd1 rfl rfl rfl (Nat.le_of_eq rfl) (by decide) (by decide) rfl ?_
  rintro _ _ ⟨rfl, hE⟩
  rw [hE]
  show G 1 19 [(a22, .inl (.long, [.long (1 : Int64), .long (10 : Int64), .long (100 : Int64), .long (1000 : Int64), .long (10000 : Int64), .long (100000 : Int64), .long (1000000 : Int64), .long (10000000 : Int64), .long (100000000 : Int64), .long (1000000000 : Int64), .long (10000000000 : Int64), .long (100000000000 : Int64), .long (1000000000000 : Int64), .long (10000000000000 : Int64), .long (100000000000000 : Int64), .long (1000000000000000 : Int64), .long (10000000000000000 : Int64), .long (100000000000000000 : Int64), .long (1000000000000000000 : Int64)]))] 191 [.val (.long a), .second, .val (.int b), .val (.int c), .val (.int e), .val (.long v), .second, .val (.int (Int32.ofNat t)), .val (.int e.toInt8.toInt32), .val (.ref a22), .unset, .unset, .unset, .unset] [.int (own_ge v (10000 : Int64)), .int n3]
  refine C.iadd (q := 192) at_191 rfl ?_
  generalize hn4 : (n3 + (own_ge v (10000 : Int64))) = n4
  have en4 := own_sg (k := 3) hv0 rfl en3 hn4
  refine C.lload (q := 194) at_192 rfl rfl ?_
  refine C.aload (q := 196) at_194 rfl rfl rfl ?_
  refine C.iconst (q := 197) (z := (5 : Int32)) at_196 rfl rfl ?_
  refine C.laload (q := 198) 0 (v := .long (100000 : Int64)) at_197 rfl (by decide) rfl rfl ?_
  refine C.callS (q := 201) 1 [.long v, .long (100000 : Int64)] [.int n4] at_198 (hw _ (List.mem_of_getElem? (i := 19) rfl)) (hw _ (List.mem_of_getElem? (i := 20) rfl)) (hw _ (List.mem_of_getElem? (i := 21) rfl)) (hw _ (List.mem_of_getElem? (i := 22) rfl)) (own_c4 l Z a0 n0 hw [] v (100000 : Int64) [(a22, .inl (.long, [.long (1 : Int64), .long (10 : Int64), .long (100 : Int64), .long (1000 : Int64), .long (10000 : Int64), .long (100000 : Int64), .long (1000000 : Int64), .long (10000000 : Int64), .long (100000000 : Int64), .long (1000000000 : Int64), .long (10000000000 : Int64), .long (100000000000 : Int64), .long (1000000000000 : Int64), .long (10000000000000 : Int64), .long (100000000000000 : Int64), .long (1000000000000000 : Int64), .long (10000000000000000 : Int64), .long (100000000000000000 : Int64), .long (1000000000000000000 : Int64)]))]) (by decide) (by decide) (by decide) own_pd1 rfl rfl rfl (Nat.le_of_eq rfl) (by decide) (by decide) rfl ?_
  rintro _ _ ⟨rfl, hE⟩
  rw [hE]
  show G 1 19 [(a22, .inl (.long, [.long (1 : Int64), .long (10 : Int64), .long (100 : Int64), .long (1000 : Int64), .long (10000 : Int64), .long (100000 : Int64), .long (1000000 : Int64), .long (10000000 : Int64), .long (100000000 : Int64), .long (1000000000 : Int64), .long (10000000000 : Int64), .long (100000000000 : Int64), .long (1000000000000 : Int64), .long (10000000000000 : Int64), .long (100000000000000 : Int64), .long (1000000000000000 : Int64), .long (10000000000000000 : Int64), .long (100000000000000000 : Int64), .long (1000000000000000000 : Int64)]))] 201 [.val (.long a), .second, .val (.int b), .val (.int c), .val (.int e), .val (.long v), .second, .val (.int (Int32.ofNat t)), .val (.int e.toInt8.toInt32), .val (.ref a22), .unset, .unset, .unset, .unset] [.int (own_ge v (100000 : Int64)), .int n4]
  refine C.iadd (q := 202) at_201 rfl ?_
  generalize hn5 : (n4 + (own_ge v (100000 : Int64))) = n5
  have en5 := own_sg (k := 4) hv0 rfl en4 hn5
  refine C.lload (q := 204) at_202 rfl rfl ?_
  refine C.aload (q := 206) at_204 rfl rfl rfl ?_
  refine C.bipush (q := 208) (z := (6 : Int32)) at_206 rfl rfl ?_
  refine C.laload (q := 209) 0 (v := .long (1000000 : Int64)) at_208 rfl (by decide) rfl rfl ?_
  refine C.callS (q := 212) 1 [.long v, .long (1000000 : Int64)] [.int n5] at_209 (hw _ (List.mem_of_getElem? (i := 19) rfl)) (hw _ (List.mem_of_getElem? (i := 20) rfl)) (hw _ (List.mem_of_getElem? (i := 21) rfl)) (hw _ (List.mem_of_getElem? (i := 22) rfl)) (own_c4 l Z a0 n0 hw [] v (1000000 : Int64) [(a22, .inl (.long, [.long (1 : Int64), .long (10 : Int64), .long (100 : Int64), .long (1000 : Int64), .long (10000 : Int64), .long (100000 : Int64), .long (1000000 : Int64), .long (10000000 : Int64), .long (100000000 : Int64), .long (1000000000 : Int64), .long (10000000000 : Int64), .long (100000000000 : Int64), .long (1000000000000 : Int64), .long (10000000000000 : Int64), .long (100000000000000 : Int64), .long (1000000000000000 : Int64), .long (10000000000000000 : Int64), .long (100000000000000000 : Int64), .long (1000000000000000000 : Int64)]))]) (by decide) (by decide) (by decide) own_pd1 rfl rfl rfl (Nat.le_of_eq rfl) (by decide) (by decide) rfl ?_
  rintro _ _ ⟨rfl, hE⟩
  rw [hE]
  show G 1 19 [(a22, .inl (.long, [.long (1 : Int64), .long (10 : Int64), .long (100 : Int64), .long (1000 : Int64), .long (10000 : Int64), .long (100000 : Int64), .long (1000000 : Int64), .long (10000000 : Int64), .long (100000000 : Int64), .long (1000000000 : Int64), .long (10000000000 : Int64), .long (100000000000 : Int64), .long (1000000000000 : Int64), .long (10000000000000 : Int64), .long (100000000000000 : Int64), .long (1000000000000000 : Int64), .long (10000000000000000 : Int64), .long (100000000000000000 : Int64), .long (1000000000000000000 : Int64)]))] 212 [.val (.long a), .second, .val (.int b), .val (.int c), .val (.int e), .val (.long v), .second, .val (.int (Int32.ofNat t)), .val (.int e.toInt8.toInt32), .val (.ref a22), .unset, .unset, .unset, .unset] [.int (own_ge v (1000000 : Int64)), .int n5]
  refine C.iadd (q := 213) at_212 rfl ?_
  generalize hn6 : (n5 + (own_ge v (1000000 : Int64))) = n6
  have en6 := own_sg (k := 5) hv0 rfl en5 hn6
  refine C.lload (q := 215) at_213 rfl rfl ?_
  refine C.aload (q := 217) at_215 rfl rfl rfl ?_
  refine C.bipush (q := 219) (z := (7 : Int32)) at_217 rfl rfl ?_
  refine C.laload (q := 220) 0 (v := .long (10000000 : Int64)) at_219 rfl (by decide) rfl rfl ?_
  refine C.callS (q := 223) 1 [.long v, .long (10000000 : Int64)] [.int n6] at_220 (hw _ (List.mem_of_getElem? (i := 19) rfl)) (hw _ (List.mem_of_getElem? (i := 20) rfl)) (hw _ (List.mem_of_getElem? (i := 21) rfl)) (hw _ (List.mem_of_getElem? (i := 22) rfl)) (own_c4 l Z a0 n0 hw [] v (10000000 : Int64) [(a22, .inl (.long, [.long (1 : Int64), .long (10 : Int64), .long (100 : Int64), .long (1000 : Int64), .long (10000 : Int64), .long (100000 : Int64), .long (1000000 : Int64), .long (10000000 : Int64), .long (100000000 : Int64), .long (1000000000 : Int64), .long (10000000000 : Int64), .long (100000000000 : Int64), .long (1000000000000 : Int64), .long (10000000000000 : Int64), .long (100000000000000 : Int64), .long (1000000000000000 : Int64), .long (10000000000000000 : Int64), .long (100000000000000000 : Int64), .long (1000000000000000000 : Int64)]))]) (by decide) (by decide) (by decide) own_pd1 rfl rfl rfl (Nat.le_of_eq rfl) (by decide) (by decide) rfl ?_
  rintro _ _ ⟨rfl, hE⟩
  rw [hE]
  show G 1 19 [(a22, .inl (.long, [.long (1 : Int64), .long (10 : Int64), .long (100 : Int64), .long (1000 : Int64), .long (10000 : Int64), .long (100000 : Int64), .long (1000000 : Int64), .long (10000000 : Int64), .long (100000000 : Int64), .long (1000000000 : Int64), .long (10000000000 : Int64), .long (100000000000 : Int64), .long (1000000000000 : Int64), .long (10000000000000 : Int64), .long (100000000000000 : Int64), .long (1000000000000000 : Int64), .long (10000000000000000 : Int64), .long (100000000000000000 : Int64), .long (1000000000000000000 : Int64)]))] 223 [.val (.long a), .second, .val (.int b), .val (.int c), .val (.int e), .val (.long v), .second, .val (.int (Int32.ofNat t)), .val (.int e.toInt8.toInt32), .val (.ref a22), .unset, .unset, .unset, .unset] [.int (own_ge v (10000000 : Int64)), .int n6]
  refine C.iadd (q := 224) at_223 rfl ?_
  generalize hn7 : (n6 + (own_ge v (10000000 : Int64))) = n7
  have en7 := own_sg (k := 6) hv0 rfl en6 hn7
  refine C.lload (q := 226) at_224 rfl rfl ?_
  refine C.aload (q := 228) at_226 rfl rfl rfl ?_
  refine C.bipush (q := 230) (z := (8 : Int32)) at_228 rfl rfl ?_
  refine C.laload (q := 231) 0 (v := .long (100000000 : Int64)) at_230 rfl (by decide) rfl rfl ?_
  refine C.callS (q := 234) 1 [.long v, .long (100000000 : Int64)] [.int n7] at_231 (hw _ (List.mem_of_getElem? (i := 19) rfl)) (hw _ (List.mem_of_getElem? (i := 20) rfl)) (hw _ (List.mem_of_getElem? (i := 21) rfl)) (hw _ (List.mem_of_getElem? (i := 22) rfl)) (own_c4 l Z a0 n0 hw [] v (100000000 : Int64) [(a22, .inl (.long, [.long (1 : Int64), .long (10 : Int64), .long (100 : Int64), .long (1000 : Int64), .long (10000 : Int64), .long (100000 : Int64), .long (1000000 : Int64), .long (10000000 : Int64), .long (100000000 : Int64), .long (1000000000 : Int64), .long (10000000000 : Int64), .long (100000000000 : Int64), .long (1000000000000 : Int64), .long (10000000000000 : Int64), .long (100000000000000 : Int64), .long (1000000000000000 : Int64), .long (10000000000000000 : Int64), .long (100000000000000000 : Int64), .long (1000000000000000000 : Int64)]))]) (by decide) (by decide) (by decide) own_pd1 rfl rfl rfl (Nat.le_of_eq rfl) (by decide) (by decide) rfl ?_
  rintro _ _ ⟨rfl, hE⟩
  rw [hE]
  show G 1 19 [(a22, .inl (.long, [.long (1 : Int64), .long (10 : Int64), .long (100 : Int64), .long (1000 : Int64), .long (10000 : Int64), .long (100000 : Int64), .long (1000000 : Int64), .long (10000000 : Int64), .long (100000000 : Int64), .long (1000000000 : Int64), .long (10000000000 : Int64), .long (100000000000 : Int64), .long (1000000000000 : Int64), .long (10000000000000 : Int64), .long (100000000000000 : Int64), .long (1000000000000000 : Int64), .long (10000000000000000 : Int64), .long (100000000000000000 : Int64), .long (1000000000000000000 : Int64)]))] 234 [.val (.long a), .second, .val (.int b), .val (.int c), .val (.int e), .val (.long v), .second, .val (.int (Int32.ofNat t)), .val (.int e.toInt8.toInt32), .val (.ref a22), .unset, .unset, .unset, .unset] [.int (own_ge v (100000000 : Int64)), .int n7]
  refine C.iadd (q := 235) at_234 rfl ?_
  generalize hn8 : (n7 + (own_ge v (100000000 : Int64))) = n8
  have en8 := own_sg (k := 7) hv0 rfl en7 hn8
  refine C.lload (q := 237) at_235 rfl rfl ?_
  refine C.aload (q := 239) at_237 rfl rfl rfl ?_
  refine C.bipush (q := 241) (z := (9 : Int32)) at_239 rfl rfl ?_
  refine C.laload (q := 242) 0 (v := .long (1000000000 : Int64)) at_241 rfl (by decide) rfl rfl ?_
  refine C.callS (q := 245) 1 [.long v, .long (1000000000 : Int64)] [.int n8] at_242 (hw _ (List.mem_of_getElem? (i := 19) rfl)) (hw _ (List.mem_of_getElem? (i := 20) rfl)) (hw _ (List.mem_of_getElem? (i := 21) rfl)) (hw _ (List.mem_of_getElem? (i := 22) rfl)) (own_c4 l Z a0 n0 hw [] v (1000000000 : Int64) [(a22, .inl (.long, [.long (1 : Int64), .long (10 : Int64), .long (100 : Int64), .long (1000 : Int64), .long (10000 : Int64), .long (100000 : Int64), .long (1000000 : Int64), .long (10000000 : Int64), .long (100000000 : Int64), .long (1000000000 : Int64), .long (10000000000 : Int64), .long (100000000000 : Int64), .long (1000000000000 : Int64), .long (10000000000000 : Int64), .long (100000000000000 : Int64), .long (1000000000000000 : Int64), .long (10000000000000000 : Int64), .long (100000000000000000 : Int64), .long (1000000000000000000 : Int64)]))]) (by decide) (by decide) (by decide) own_pd1 rfl rfl rfl (Nat.le_of_eq rfl) (by decide) (by decide) rfl ?_
  rintro _ _ ⟨rfl, hE⟩
  rw [hE]
  show G 1 19 [(a22, .inl (.long, [.long (1 : Int64), .long (10 : Int64), .long (100 : Int64), .long (1000 : Int64), .long (10000 : Int64), .long (100000 : Int64), .long (1000000 : Int64), .long (10000000 : Int64), .long (100000000 : Int64), .long (1000000000 : Int64), .long (10000000000 : Int64), .long (100000000000 : Int64), .long (1000000000000 : Int64), .long (10000000000000 : Int64), .long (100000000000000 : Int64), .long (1000000000000000 : Int64), .long (10000000000000000 : Int64), .long (100000000000000000 : Int64), .long (1000000000000000000 : Int64)]))] 245 [.val (.long a), .second, .val (.int b), .val (.int c), .val (.int e), .val (.long v), .second, .val (.int (Int32.ofNat t)), .val (.int e.toInt8.toInt32), .val (.ref a22), .unset, .unset, .unset, .unset] [.int (own_ge v (1000000000 : Int64)), .int n8]
  refine C.iadd (q := 246) at_245 rfl ?_
  generalize hn9 : (n8 + (own_ge v (1000000000 : Int64))) = n9
  have en9 := own_sg (k := 8) hv0 rfl en8 hn9
  refine C.lload (q := 248) at_246 rfl rfl ?_
  refine C.aload (q := 250) at_248 rfl rfl rfl ?_
  refine C.bipush (q := 252) (z := (10 : Int32)) at_250 rfl rfl ?_
  refine C.laload (q := 253) 0 (v := .long (10000000000 : Int64)) at_252 rfl (by decide) rfl rfl ?_
  refine C.callS (q := 256) 1 [.long v, .long (10000000000 : Int64)] [.int n9] at_253 (hw _ (List.mem_of_getElem? (i := 19) rfl)) (hw _ (List.mem_of_getElem? (i := 20) rfl)) (hw _ (List.mem_of_getElem? (i := 21) rfl)) (hw _ (List.mem_of_getElem? (i := 22) rfl)) (own_c4 l Z a0 n0 hw [] v (10000000000 : Int64) [(a22, .inl (.long, [.long (1 : Int64), .long (10 : Int64), .long (100 : Int64), .long (1000 : Int64), .long (10000 : Int64), .long (100000 : Int64), .long (1000000 : Int64), .long (10000000 : Int64), .long (100000000 : Int64), .long (1000000000 : Int64), .long (10000000000 : Int64), .long (100000000000 : Int64), .long (1000000000000 : Int64), .long (10000000000000 : Int64), .long (100000000000000 : Int64), .long (1000000000000000 : Int64), .long (10000000000000000 : Int64), .long (100000000000000000 : Int64), .long (1000000000000000000 : Int64)]))]) (by decide) (by decide) (by decide) own_pd1 rfl rfl rfl (Nat.le_of_eq rfl) (by decide) (by decide) rfl ?_
  rintro _ _ ⟨rfl, hE⟩
  rw [hE]
  show G 1 19 [(a22, .inl (.long, [.long (1 : Int64), .long (10 : Int64), .long (100 : Int64), .long (1000 : Int64), .long (10000 : Int64), .long (100000 : Int64), .long (1000000 : Int64), .long (10000000 : Int64), .long (100000000 : Int64), .long (1000000000 : Int64), .long (10000000000 : Int64), .long (100000000000 : Int64), .long (1000000000000 : Int64), .long (10000000000000 : Int64), .long (100000000000000 : Int64), .long (1000000000000000 : Int64), .long (10000000000000000 : Int64), .long (100000000000000000 : Int64), .long (1000000000000000000 : Int64)]))] 256 [.val (.long a), .second, .val (.int b), .val (.int c), .val (.int e), .val (.long v), .second, .val (.int (Int32.ofNat t)), .val (.int e.toInt8.toInt32), .val (.ref a22), .unset, .unset, .unset, .unset] [.int (own_ge v (10000000000 : Int64)), .int n9]
  refine C.iadd (q := 257) at_256 rfl ?_
  generalize hn10 : (n9 + (own_ge v (10000000000 : Int64))) = n10
  have en10 := own_sg (k := 9) hv0 rfl en9 hn10
  refine C.lload (q := 259) at_257 rfl rfl ?_
  refine C.aload (q := 261) at_259 rfl rfl rfl ?_
  refine C.bipush (q := 263) (z := (11 : Int32)) at_261 rfl rfl ?_
  refine C.laload (q := 264) 0 (v := .long (100000000000 : Int64)) at_263 rfl (by decide) rfl rfl ?_
  refine C.callS (q := 267) 1 [.long v, .long (100000000000 : Int64)] [.int n10] at_264 (hw _ (List.mem_of_getElem? (i := 19) rfl)) (hw _ (List.mem_of_getElem? (i := 20) rfl)) (hw _ (List.mem_of_getElem? (i := 21) rfl)) (hw _ (List.mem_of_getElem? (i := 22) rfl)) (own_c4 l Z a0 n0 hw [] v (100000000000 : Int64) [(a22, .inl (.long, [.long (1 : Int64), .long (10 : Int64), .long (100 : Int64), .long (1000 : Int64), .long (10000 : Int64), .long (100000 : Int64), .long (1000000 : Int64), .long (10000000 : Int64), .long (100000000 : Int64), .long (1000000000 : Int64), .long (10000000000 : Int64), .long (100000000000 : Int64), .long (1000000000000 : Int64), .long (10000000000000 : Int64), .long (100000000000000 : Int64), .long (1000000000000000 : Int64), .long (10000000000000000 : Int64), .long (100000000000000000 : Int64), .long (1000000000000000000 : Int64)]))]) (by decide) (by decide) (by decide) own_pd1 rfl rfl rfl (Nat.le_of_eq rfl) (by decide) (by decide) rfl ?_
  rintro _ _ ⟨rfl, hE⟩
  rw [hE]
  show G 1 19 [(a22, .inl (.long, [.long (1 : Int64), .long (10 : Int64), .long (100 : Int64), .long (1000 : Int64), .long (10000 : Int64), .long (100000 : Int64), .long (1000000 : Int64), .long (10000000 : Int64), .long (100000000 : Int64), .long (1000000000 : Int64), .long (10000000000 : Int64), .long (100000000000 : Int64), .long (1000000000000 : Int64), .long (10000000000000 : Int64), .long (100000000000000 : Int64), .long (1000000000000000 : Int64), .long (10000000000000000 : Int64), .long (100000000000000000 : Int64), .long (1000000000000000000 : Int64)]))] 267 [.val (.long a), .second, .val (.int b), .val (.int c), .val (.int e), .val (.long v), .second, .val (.int (Int32.ofNat t)), .val (.int e.toInt8.toInt32), .val (.ref a22), .unset, .unset, .unset, .unset] [.int (own_ge v (100000000000 : Int64)), .int n10]
  refine C.iadd (q := 268) at_267 rfl ?_
  generalize hn11 : (n10 + (own_ge v (100000000000 : Int64))) = n11
  have en11 := own_sg (k := 10) hv0 rfl en10 hn11
  refine C.lload (q := 270) at_268 rfl rfl ?_
  refine C.aload (q := 272) at_270 rfl rfl rfl ?_
  refine C.bipush (q := 274) (z := (12 : Int32)) at_272 rfl rfl ?_
  refine C.laload (q := 275) 0 (v := .long (1000000000000 : Int64)) at_274 rfl (by decide) rfl rfl ?_
  refine C.callS (q := 278) 1 [.long v, .long (1000000000000 : Int64)] [.int n11] at_275 (hw _ (List.mem_of_getElem? (i := 19) rfl)) (hw _ (List.mem_of_getElem? (i := 20) rfl)) (hw _ (List.mem_of_getElem? (i := 21) rfl)) (hw _ (List.mem_of_getElem? (i := 22) rfl)) (own_c4 l Z a0 n0 hw [] v (1000000000000 : Int64) [(a22, .inl (.long, [.long (1 : Int64), .long (10 : Int64), .long (100 : Int64), .long (1000 : Int64), .long (10000 : Int64), .long (100000 : Int64), .long (1000000 : Int64), .long (10000000 : Int64), .long (100000000 : Int64), .long (1000000000 : Int64), .long (10000000000 : Int64), .long (100000000000 : Int64), .long (1000000000000 : Int64), .long (10000000000000 : Int64), .long (100000000000000 : Int64), .long (1000000000000000 : Int64), .long (10000000000000000 : Int64), .long (100000000000000000 : Int64), .long (1000000000000000000 : Int64)]))]) (by decide) (by decide) (by decide) own_pd1 rfl rfl rfl (Nat.le_of_eq rfl) (by decide) (by decide) rfl ?_
  rintro _ _ ⟨rfl, hE⟩
  rw [hE]
  show G 1 19 [(a22, .inl (.long, [.long (1 : Int64), .long (10 : Int64), .long (100 : Int64), .long (1000 : Int64), .long (10000 : Int64), .long (100000 : Int64), .long (1000000 : Int64), .long (10000000 : Int64), .long (100000000 : Int64), .long (1000000000 : Int64), .long (10000000000 : Int64), .long (100000000000 : Int64), .long (1000000000000 : Int64), .long (10000000000000 : Int64), .long (100000000000000 : Int64), .long (1000000000000000 : Int64), .long (10000000000000000 : Int64), .long (100000000000000000 : Int64), .long (1000000000000000000 : Int64)]))] 278 [.val (.long a), .second, .val (.int b), .val (.int c), .val (.int e), .val (.long v), .second, .val (.int (Int32.ofNat t)), .val (.int e.toInt8.toInt32), .val (.ref a22), .unset, .unset, .unset, .unset] [.int (own_ge v (1000000000000 : Int64)), .int n11]
  refine C.iadd (q := 279) at_278 rfl ?_
  generalize hn12 : (n11 + (own_ge v (1000000000000 : Int64))) = n12
  have en12 := own_sg (k := 11) hv0 rfl en11 hn12
  refine C.lload (q := 281) at_279 rfl rfl ?_
  refine C.aload (q := 283) at_281 rfl rfl rfl ?_
  refine C.bipush (q := 285) (z := (13 : Int32)) at_283 rfl rfl ?_
  refine C.laload (q := 286) 0 (v := .long (10000000000000 : Int64)) at_285 rfl (by decide) rfl rfl ?_
  refine C.callS (q := 289) 1 [.long v, .long (10000000000000 : Int64)] [.int n12] at_286 (hw _ (List.mem_of_getElem? (i := 19) rfl)) (hw _ (List.mem_of_getElem? (i := 20) rfl)) (hw _ (List.mem_of_getElem? (i := 21) rfl)) (hw _ (List.mem_of_getElem? (i := 22) rfl)) (own_c4 l Z a0 n0 hw [] v (10000000000000 : Int64) [(a22, .inl (.long, [.long (1 : Int64), .long (10 : Int64), .long (100 : Int64), .long (1000 : Int64), .long (10000 : Int64), .long (100000 : Int64), .long (1000000 : Int64), .long (10000000 : Int64), .long (100000000 : Int64), .long (1000000000 : Int64), .long (10000000000 : Int64), .long (100000000000 : Int64), .long (1000000000000 : Int64), .long (10000000000000 : Int64), .long (100000000000000 : Int64), .long (1000000000000000 : Int64), .long (10000000000000000 : Int64), .long (100000000000000000 : Int64), .long (1000000000000000000 : Int64)]))]) (by decide) (by decide) (by decide) own_pd1 rfl rfl rfl (Nat.le_of_eq rfl) (by decide) (by decide) rfl ?_
  rintro _ _ ⟨rfl, hE⟩
  rw [hE]
  show G 1 19 [(a22, .inl (.long, [.long (1 : Int64), .long (10 : Int64), .long (100 : Int64), .long (1000 : Int64), .long (10000 : Int64), .long (100000 : Int64), .long (1000000 : Int64), .long (10000000 : Int64), .long (100000000 : Int64), .long (1000000000 : Int64), .long (10000000000 : Int64), .long (100000000000 : Int64), .long (1000000000000 : Int64), .long (10000000000000 : Int64), .long (100000000000000 : Int64), .long (1000000000000000 : Int64), .long (10000000000000000 : Int64), .long (100000000000000000 : Int64), .long (1000000000000000000 : Int64)]))] 289 [.val (.long a), .second, .val (.int b), .val (.int c), .val (.int e), .val (.long v), .second, .val (.int (Int32.ofNat t)), .val (.int e.toInt8.toInt32), .val (.ref a22), .unset, .unset, .unset, .unset] [.int (own_ge v (10000000000000 : Int64)), .int n12]
  refine C.iadd (q := 290) at_289 rfl ?_
  generalize hn13 : (n12 + (own_ge v (10000000000000 : Int64))) = n13
  have en13 := own_sg (k := 12) hv0 rfl en12 hn13
  refine C.lload (q := 292) at_290 rfl rfl ?_
  refine C.aload (q := 294) at_292 rfl rfl rfl ?_
  refine C.bipush (q := 296) (z := (14 : Int32)) at_294 rfl rfl ?_
  refine C.laload (q := 297) 0 (v := .long (100000000000000 : Int64)) at_296 rfl (by decide) rfl rfl ?_
  refine C.callS (q := 300) 1 [.long v, .long (100000000000000 : Int64)] [.int n13] at_297 (hw _ (List.mem_of_getElem? (i := 19) rfl)) (hw _ (List.mem_of_getElem? (i := 20) rfl)) (hw _ (List.mem_of_getElem? (i := 21) rfl)) (hw _ (List.mem_of_getElem? (i := 22) rfl)) (own_c4 l Z a0 n0 hw [] v (100000000000000 : Int64) [(a22, .inl (.long, [.long (1 : Int64), .long (10 : Int64), .long (100 : Int64), .long (1000 : Int64), .long (10000 : Int64), .long (100000 : Int64), .long (1000000 : Int64), .long (10000000 : Int64), .long (100000000 : Int64), .long (1000000000 : Int64), .long (10000000000 : Int64), .long (100000000000 : Int64), .long (1000000000000 : Int64), .long (10000000000000 : Int64), .long (100000000000000 : Int64), .long (1000000000000000 : Int64), .long (10000000000000000 : Int64), .long (100000000000000000 : Int64), .long (1000000000000000000 : Int64)]))]) (by decide) (by decide) (by decide) own_pd1 rfl rfl rfl (Nat.le_of_eq rfl) (by decide) (by decide) rfl ?_
  rintro _ _ ⟨rfl, hE⟩
  rw [hE]
  show G 1 19 [(a22, .inl (.long, [.long (1 : Int64), .long (10 : Int64), .long (100 : Int64), .long (1000 : Int64), .long (10000 : Int64), .long (100000 : Int64), .long (1000000 : Int64), .long (10000000 : Int64), .long (100000000 : Int64), .long (1000000000 : Int64), .long (10000000000 : Int64), .long (100000000000 : Int64), .long (1000000000000 : Int64), .long (10000000000000 : Int64), .long (100000000000000 : Int64), .long (1000000000000000 : Int64), .long (10000000000000000 : Int64), .long (100000000000000000 : Int64), .long (1000000000000000000 : Int64)]))] 300 [.val (.long a), .second, .val (.int b), .val (.int c), .val (.int e), .val (.long v), .second, .val (.int (Int32.ofNat t)), .val (.int e.toInt8.toInt32), .val (.ref a22), .unset, .unset, .unset, .unset] [.int (own_ge v (100000000000000 : Int64)), .int n13]
  refine C.iadd (q := 301) at_300 rfl ?_
  generalize hn14 : (n13 + (own_ge v (100000000000000 : Int64))) = n14
  have en14 := own_sg (k := 13) hv0 rfl en13 hn14
  refine C.lload (q := 303) at_301 rfl rfl ?_
  refine C.aload (q := 305) at_303 rfl rfl rfl ?_
  refine C.bipush (q := 307) (z := (15 : Int32)) at_305 rfl rfl ?_
  refine C.laload (q := 308) 0 (v := .long (1000000000000000 : Int64)) at_307 rfl (by decide) rfl rfl ?_
  refine C.callS (q := 311) 1 [.long v, .long (1000000000000000 : Int64)] [.int n14] at_308 (hw _ (List.mem_of_getElem? (i := 19) rfl)) (hw _ (List.mem_of_getElem? (i := 20) rfl)) (hw _ (List.mem_of_getElem? (i := 21) rfl)) (hw _ (List.mem_of_getElem? (i := 22) rfl)) (own_c4 l Z a0 n0 hw [] v (1000000000000000 : Int64) [(a22, .inl (.long, [.long (1 : Int64), .long (10 : Int64), .long (100 : Int64), .long (1000 : Int64), .long (10000 : Int64), .long (100000 : Int64), .long (1000000 : Int64), .long (10000000 : Int64), .long (100000000 : Int64), .long (1000000000 : Int64), .long (10000000000 : Int64), .long (100000000000 : Int64), .long (1000000000000 : Int64), .long (10000000000000 : Int64), .long (100000000000000 : Int64), .long (1000000000000000 : Int64), .long (10000000000000000 : Int64), .long (100000000000000000 : Int64), .long (1000000000000000000 : Int64)]))]) (by decide) (by decide) (by decide) own_pd1 rfl rfl rfl (Nat.le_of_eq rfl) (by decide) (by decide) rfl ?_
  rintro _ _ ⟨rfl, hE⟩
  rw [hE]
  show G 1 19 [(a22, .inl (.long, [.long (1 : Int64), .long (10 : Int64), .long (100 : Int64), .long (1000 : Int64), .long (10000 : Int64), .long (100000 : Int64), .long (1000000 : Int64), .long (10000000 : Int64), .long (100000000 : Int64), .long (1000000000 : Int64), .long (10000000000 : Int64), .long (100000000000 : Int64), .long (1000000000000 : Int64), .long (10000000000000 : Int64), .long (100000000000000 : Int64), .long (1000000000000000 : Int64), .long (10000000000000000 : Int64), .long (100000000000000000 : Int64), .long (1000000000000000000 : Int64)]))] 311 [.val (.long a), .second, .val (.int b), .val (.int c), .val (.int e), .val (.long v), .second, .val (.int (Int32.ofNat t)), .val (.int e.toInt8.toInt32), .val (.ref a22), .unset, .unset, .unset, .unset] [.int (own_ge v (1000000000000000 : Int64)), .int n14]
  refine C.iadd (q := 312) at_311 rfl ?_
  generalize hn15 : (n14 + (own_ge v (1000000000000000 : Int64))) = n15
  have en15 := own_sg (k := 14) hv0 rfl en14 hn15
  refine C.lload (q := 314) at_312 rfl rfl ?_
  refine C.aload (q := 316) at_314 rfl rfl rfl ?_
  refine C.bipush (q := 318) (z := (16 : Int32)) at_316 rfl rfl ?_
  refine C.laload (q := 319) 0 (v := .long (10000000000000000 : Int64)) at_318 rfl (by decide) rfl rfl ?_
  refine C.callS (q := 322) 1 [.long v, .long (10000000000000000 : Int64)] [.int n15] at_319 (hw _ (List.mem_of_getElem? (i := 19) rfl)) (hw _ (List.mem_of_getElem? (i := 20) rfl)) (hw _ (List.mem_of_getElem? (i := 21) rfl)) (hw _ (List.mem_of_getElem? (i := 22) rfl)) (own_c4 l Z a0 n0 hw [] v (10000000000000000 : Int64) [(a22, .inl (.long, [.long (1 : Int64), .long (10 : Int64), .long (100 : Int64), .long (1000 : Int64), .long (10000 : Int64), .long (100000 : Int64), .long (1000000 : Int64), .long (10000000 : Int64), .long (100000000 : Int64), .long (1000000000 : Int64), .long (10000000000 : Int64), .long (100000000000 : Int64), .long (1000000000000 : Int64), .long (10000000000000 : Int64), .long (100000000000000 : Int64), .long (1000000000000000 : Int64), .long (10000000000000000 : Int64), .long (100000000000000000 : Int64), .long (1000000000000000000 : Int64)]))]) (by decide) (by decide) (by decide) own_pd1 rfl rfl rfl (Nat.le_of_eq rfl) (by decide) (by decide) rfl ?_
  rintro _ _ ⟨rfl, hE⟩
  rw [hE]
  show G 1 19 [(a22, .inl (.long, [.long (1 : Int64), .long (10 : Int64), .long (100 : Int64), .long (1000 : Int64), .long (10000 : Int64), .long (100000 : Int64), .long (1000000 : Int64), .long (10000000 : Int64), .long (100000000 : Int64), .long (1000000000 : Int64), .long (10000000000 : Int64), .long (100000000000 : Int64), .long (1000000000000 : Int64), .long (10000000000000 : Int64), .long (100000000000000 : Int64), .long (1000000000000000 : Int64), .long (10000000000000000 : Int64), .long (100000000000000000 : Int64), .long (1000000000000000000 : Int64)]))] 322 [.val (.long a), .second, .val (.int b), .val (.int c), .val (.int e), .val (.long v), .second, .val (.int (Int32.ofNat t)), .val (.int e.toInt8.toInt32), .val (.ref a22), .unset, .unset, .unset, .unset] [.int (own_ge v (10000000000000000 : Int64)), .int n15]
  refine C.iadd (q := 323) at_322 rfl ?_
  generalize hn16 : (n15 + (own_ge v (10000000000000000 : Int64))) = n16
  have en16 := own_sg (k := 15) hv0 rfl en15 hn16
  refine C.lload (q := 325) at_323 rfl rfl ?_
  refine C.aload (q := 327) at_325 rfl rfl rfl ?_
  refine C.bipush (q := 329) (z := (17 : Int32)) at_327 rfl rfl ?_
  refine C.laload (q := 330) 0 (v := .long (100000000000000000 : Int64)) at_329 rfl (by decide) rfl rfl ?_
  refine C.callS (q := 333) 1 [.long v, .long (100000000000000000 : Int64)] [.int n16] at_330 (hw _ (List.mem_of_getElem? (i := 19) rfl)) (hw _ (List.mem_of_getElem? (i := 20) rfl)) (hw _ (List.mem_of_getElem? (i := 21) rfl)) (hw _ (List.mem_of_getElem? (i := 22) rfl)) (own_c4 l Z a0 n0 hw [] v (100000000000000000 : Int64) [(a22, .inl (.long, [.long (1 : Int64), .long (10 : Int64), .long (100 : Int64), .long (1000 : Int64), .long (10000 : Int64), .long (100000 : Int64), .long (1000000 : Int64), .long (10000000 : Int64), .long (100000000 : Int64), .long (1000000000 : Int64), .long (10000000000 : Int64), .long (100000000000 : Int64), .long (1000000000000 : Int64), .long (10000000000000 : Int64), .long (100000000000000 : Int64), .long (1000000000000000 : Int64), .long (10000000000000000 : Int64), .long (100000000000000000 : Int64), .long (1000000000000000000 : Int64)]))]) (by decide) (by decide) (by decide) own_pd1 rfl rfl rfl (Nat.le_of_eq rfl) (by decide) (by decide) rfl ?_
  rintro _ _ ⟨rfl, hE⟩
  rw [hE]
  show G 1 19 [(a22, .inl (.long, [.long (1 : Int64), .long (10 : Int64), .long (100 : Int64), .long (1000 : Int64), .long (10000 : Int64), .long (100000 : Int64), .long (1000000 : Int64), .long (10000000 : Int64), .long (100000000 : Int64), .long (1000000000 : Int64), .long (10000000000 : Int64), .long (100000000000 : Int64), .long (1000000000000 : Int64), .long (10000000000000 : Int64), .long (100000000000000 : Int64), .long (1000000000000000 : Int64), .long (10000000000000000 : Int64), .long (100000000000000000 : Int64), .long (1000000000000000000 : Int64)]))] 333 [.val (.long a), .second, .val (.int b), .val (.int c), .val (.int e), .val (.long v), .second, .val (.int (Int32.ofNat t)), .val (.int e.toInt8.toInt32), .val (.ref a22), .unset, .unset, .unset, .unset] [.int (own_ge v (100000000000000000 : Int64)), .int n16]
  refine C.iadd (q := 334) at_333 rfl ?_
  generalize hn17 : (n16 + (own_ge v (100000000000000000 : Int64))) = n17
  have en17 := own_sg (k := 16) hv0 rfl en16 hn17
  refine C.lload (q := 336) at_334 rfl rfl ?_
  refine C.aload (q := 338) at_336 rfl rfl rfl ?_
  refine C.bipush (q := 340) (z := (18 : Int32)) at_338 rfl rfl ?_
  refine C.laload (q := 341) 0 (v := .long (1000000000000000000 : Int64)) at_340 rfl (by decide) rfl rfl ?_
  refine C.callS (q := 344) 1 [.long v, .long (1000000000000000000 : Int64)] [.int n17] at_341 (hw _ (List.mem_of_getElem? (i := 19) rfl)) (hw _ (List.mem_of_getElem? (i := 20) rfl)) (hw _ (List.mem_of_getElem? (i := 21) rfl)) (hw _ (List.mem_of_getElem? (i := 22) rfl)) (own_c4 l Z a0 n0 hw [] v (1000000000000000000 : Int64) [(a22, .inl (.long, [.long (1 : Int64), .long (10 : Int64), .long (100 : Int64), .long (1000 : Int64), .long (10000 : Int64), .long (100000 : Int64), .long (1000000 : Int64), .long (10000000 : Int64), .long (100000000 : Int64), .long (1000000000 : Int64), .long (10000000000 : Int64), .long (100000000000 : Int64), .long (1000000000000 : Int64), .long (10000000000000 : Int64), .long (100000000000000 : Int64), .long (1000000000000000 : Int64), .long (10000000000000000 : Int64), .long (100000000000000000 : Int64), .long (1000000000000000000 : Int64)]))]) (by decide) (by decide) (by decide) own_pd1 rfl rfl rfl (Nat.le_of_eq rfl) (by decide) (by decide) rfl ?_
  rintro _ _ ⟨rfl, hE⟩
  rw [hE]
  show G 1 19 [(a22, .inl (.long, [.long (1 : Int64), .long (10 : Int64), .long (100 : Int64), .long (1000 : Int64), .long (10000 : Int64), .long (100000 : Int64), .long (1000000 : Int64), .long (10000000 : Int64), .long (100000000 : Int64), .long (1000000000 : Int64), .long (10000000000 : Int64), .long (100000000000 : Int64), .long (1000000000000 : Int64), .long (10000000000000 : Int64), .long (100000000000000 : Int64), .long (1000000000000000 : Int64), .long (10000000000000000 : Int64), .long (100000000000000000 : Int64), .long (1000000000000000000 : Int64)]))] 344 [.val (.long a), .second, .val (.int b), .val (.int c), .val (.int e), .val (.long v), .second, .val (.int (Int32.ofNat t)), .val (.int e.toInt8.toInt32), .val (.ref a22), .unset, .unset, .unset, .unset] [.int (own_ge v (1000000000000000000 : Int64)), .int n17]
  refine C.iadd (q := 345) at_344 rfl ?_
  generalize hn18 : (n17 + (own_ge v (1000000000000000000 : Int64))) = n18
  have en18 := own_sg (k := 17) hv0 rfl en17 hn18
  rw [en18]
  refine C.istore (q := 347) (ls' := [.val (.long a), .second, .val (.int b), .val (.int c), .val (.int e), .val (.long v), .second, .val (.int (Int32.ofNat t)), .val (.int e.toInt8.toInt32), .val (.ref a22), .val (.int (Int32.ofNat (own_r 18 v.toInt.toNat))), .unset, .unset, .unset]) at_345 rfl rfl ?_
  refine C.bipush (q := 349) (z := (23 : Int32)) at_347 rfl rfl ?_
  refine C.newarr (q := 351) 23 (ty := .byte) (vs := [.int (0 : Int32), .int (0 : Int32), .int (0 : Int32), .int (0 : Int32), .int (0 : Int32), .int (0 : Int32), .int (0 : Int32), .int (0 : Int32), .int (0 : Int32), .int (0 : Int32), .int (0 : Int32), .int (0 : Int32), .int (0 : Int32), .int (0 : Int32), .int (0 : Int32), .int (0 : Int32), .int (0 : Int32), .int (0 : Int32), .int (0 : Int32), .int (0 : Int32), .int (0 : Int32), .int (0 : Int32), .int (0 : Int32)]) (k' := 2) (n' := 42) at_349 (hw _ (List.mem_of_getElem? (i := 23) rfl)) (by decide) (by decide) (by decide) (by decide) (by decide) rfl rfl rfl rfl rfl (fun a349 => ?_)
  show G 2 42 [(a22, .inl (.long, [.long (1 : Int64), .long (10 : Int64), .long (100 : Int64), .long (1000 : Int64), .long (10000 : Int64), .long (100000 : Int64), .long (1000000 : Int64), .long (10000000 : Int64), .long (100000000 : Int64), .long (1000000000 : Int64), .long (10000000000 : Int64), .long (100000000000 : Int64), .long (1000000000000 : Int64), .long (10000000000000 : Int64), .long (100000000000000 : Int64), .long (1000000000000000 : Int64), .long (10000000000000000 : Int64), .long (100000000000000000 : Int64), .long (1000000000000000000 : Int64)])), (a349, .inl (.byte, [.int (0 : Int32), .int (0 : Int32), .int (0 : Int32), .int (0 : Int32), .int (0 : Int32), .int (0 : Int32), .int (0 : Int32), .int (0 : Int32), .int (0 : Int32), .int (0 : Int32), .int (0 : Int32), .int (0 : Int32), .int (0 : Int32), .int (0 : Int32), .int (0 : Int32), .int (0 : Int32), .int (0 : Int32), .int (0 : Int32), .int (0 : Int32), .int (0 : Int32), .int (0 : Int32), .int (0 : Int32), .int (0 : Int32)]))] 351 [.val (.long a), .second, .val (.int b), .val (.int c), .val (.int e), .val (.long v), .second, .val (.int (Int32.ofNat t)), .val (.int e.toInt8.toInt32), .val (.ref a22), .val (.int (Int32.ofNat (own_r 18 v.toInt.toNat))), .unset, .unset, .unset] [.ref a349]
  refine C.dup (q := 352) at_351 rfl rfl ?_
  refine C.iconst (q := 353) (z := (0 : Int32)) at_352 rfl rfl ?_
  refine C.iload (q := 355) at_353 rfl rfl ?_
  refine C.bastore (q := 356) 1 (H' := [(a22, .inl (.long, [.long (1 : Int64), .long (10 : Int64), .long (100 : Int64), .long (1000 : Int64), .long (10000 : Int64), .long (100000 : Int64), .long (1000000 : Int64), .long (10000000 : Int64), .long (100000000 : Int64), .long (1000000000 : Int64), .long (10000000000 : Int64), .long (100000000000 : Int64), .long (1000000000000 : Int64), .long (10000000000000 : Int64), .long (100000000000000 : Int64), .long (1000000000000000 : Int64), .long (10000000000000000 : Int64), .long (100000000000000000 : Int64), .long (1000000000000000000 : Int64)])), (a349, .inl (.byte, [.int (nar .byte e.toInt8.toInt32), .int (0 : Int32), .int (0 : Int32), .int (0 : Int32), .int (0 : Int32), .int (0 : Int32), .int (0 : Int32), .int (0 : Int32), .int (0 : Int32), .int (0 : Int32), .int (0 : Int32), .int (0 : Int32), .int (0 : Int32), .int (0 : Int32), .int (0 : Int32), .int (0 : Int32), .int (0 : Int32), .int (0 : Int32), .int (0 : Int32), .int (0 : Int32), .int (0 : Int32), .int (0 : Int32), .int (0 : Int32)]))]) at_355 rfl (by decide) (by show _ < 23; decide) rfl rfl ?_
  refine C.dup (q := 357) at_356 rfl rfl ?_
  refine C.iconst (q := 358) (z := (1 : Int32)) at_357 rfl rfl ?_
  refine C.iload (q := 360) at_358 rfl rfl ?_
  refine C.bastore (q := 361) 1 (H' := [(a22, .inl (.long, [.long (1 : Int64), .long (10 : Int64), .long (100 : Int64), .long (1000 : Int64), .long (10000 : Int64), .long (100000 : Int64), .long (1000000 : Int64), .long (10000000 : Int64), .long (100000000 : Int64), .long (1000000000 : Int64), .long (10000000000 : Int64), .long (100000000000 : Int64), .long (1000000000000 : Int64), .long (10000000000000 : Int64), .long (100000000000000 : Int64), .long (1000000000000000 : Int64), .long (10000000000000000 : Int64), .long (100000000000000000 : Int64), .long (1000000000000000000 : Int64)])), (a349, .inl (.byte, [.int (nar .byte e.toInt8.toInt32), .int (nar .byte e.toInt8.toInt32), .int (0 : Int32), .int (0 : Int32), .int (0 : Int32), .int (0 : Int32), .int (0 : Int32), .int (0 : Int32), .int (0 : Int32), .int (0 : Int32), .int (0 : Int32), .int (0 : Int32), .int (0 : Int32), .int (0 : Int32), .int (0 : Int32), .int (0 : Int32), .int (0 : Int32), .int (0 : Int32), .int (0 : Int32), .int (0 : Int32), .int (0 : Int32), .int (0 : Int32), .int (0 : Int32)]))]) at_360 rfl (by decide) (by show _ < 23; decide) rfl rfl ?_
  refine C.dup (q := 362) at_361 rfl rfl ?_
  refine C.iconst (q := 363) (z := (2 : Int32)) at_362 rfl rfl ?_
  refine C.iload (q := 365) at_363 rfl rfl ?_
  refine C.bastore (q := 366) 1 (H' := [(a22, .inl (.long, [.long (1 : Int64), .long (10 : Int64), .long (100 : Int64), .long (1000 : Int64), .long (10000 : Int64), .long (100000 : Int64), .long (1000000 : Int64), .long (10000000 : Int64), .long (100000000 : Int64), .long (1000000000 : Int64), .long (10000000000 : Int64), .long (100000000000 : Int64), .long (1000000000000 : Int64), .long (10000000000000 : Int64), .long (100000000000000 : Int64), .long (1000000000000000 : Int64), .long (10000000000000000 : Int64), .long (100000000000000000 : Int64), .long (1000000000000000000 : Int64)])), (a349, .inl (.byte, [.int (nar .byte e.toInt8.toInt32), .int (nar .byte e.toInt8.toInt32), .int (nar .byte e.toInt8.toInt32), .int (0 : Int32), .int (0 : Int32), .int (0 : Int32), .int (0 : Int32), .int (0 : Int32), .int (0 : Int32), .int (0 : Int32), .int (0 : Int32), .int (0 : Int32), .int (0 : Int32), .int (0 : Int32), .int (0 : Int32), .int (0 : Int32), .int (0 : Int32), .int (0 : Int32), .int (0 : Int32), .int (0 : Int32), .int (0 : Int32), .int (0 : Int32), .int (0 : Int32)]))]) at_365 rfl (by decide) (by show _ < 23; decide) rfl rfl ?_
  refine C.dup (q := 367) at_366 rfl rfl ?_
  refine C.iconst (q := 368) (z := (3 : Int32)) at_367 rfl rfl ?_
  refine C.iload (q := 370) at_368 rfl rfl ?_
  refine C.bastore (q := 371) 1 (H' := [(a22, .inl (.long, [.long (1 : Int64), .long (10 : Int64), .long (100 : Int64), .long (1000 : Int64), .long (10000 : Int64), .long (100000 : Int64), .long (1000000 : Int64), .long (10000000 : Int64), .long (100000000 : Int64), .long (1000000000 : Int64), .long (10000000000 : Int64), .long (100000000000 : Int64), .long (1000000000000 : Int64), .long (10000000000000 : Int64), .long (100000000000000 : Int64), .long (1000000000000000 : Int64), .long (10000000000000000 : Int64), .long (100000000000000000 : Int64), .long (1000000000000000000 : Int64)])), (a349, .inl (.byte, [.int (nar .byte e.toInt8.toInt32), .int (nar .byte e.toInt8.toInt32), .int (nar .byte e.toInt8.toInt32), .int (nar .byte e.toInt8.toInt32), .int (0 : Int32), .int (0 : Int32), .int (0 : Int32), .int (0 : Int32), .int (0 : Int32), .int (0 : Int32), .int (0 : Int32), .int (0 : Int32), .int (0 : Int32), .int (0 : Int32), .int (0 : Int32), .int (0 : Int32), .int (0 : Int32), .int (0 : Int32), .int (0 : Int32), .int (0 : Int32), .int (0 : Int32), .int (0 : Int32), .int (0 : Int32)]))]) at_370 rfl (by decide) (by show _ < 23; decide) rfl rfl ?_
  refine C.dup (q := 372) at_371 rfl rfl ?_
  refine C.iconst (q := 373) (z := (4 : Int32)) at_372 rfl rfl ?_
  refine C.iload (q := 375) at_373 rfl rfl ?_
  refine C.bastore (q := 376) 1 (H' := [(a22, .inl (.long, [.long (1 : Int64), .long (10 : Int64), .long (100 : Int64), .long (1000 : Int64), .long (10000 : Int64), .long (100000 : Int64), .long (1000000 : Int64), .long (10000000 : Int64), .long (100000000 : Int64), .long (1000000000 : Int64), .long (10000000000 : Int64), .long (100000000000 : Int64), .long (1000000000000 : Int64), .long (10000000000000 : Int64), .long (100000000000000 : Int64), .long (1000000000000000 : Int64), .long (10000000000000000 : Int64), .long (100000000000000000 : Int64), .long (1000000000000000000 : Int64)])), (a349, .inl (.byte, [.int (nar .byte e.toInt8.toInt32), .int (nar .byte e.toInt8.toInt32), .int (nar .byte e.toInt8.toInt32), .int (nar .byte e.toInt8.toInt32), .int (nar .byte e.toInt8.toInt32), .int (0 : Int32), .int (0 : Int32), .int (0 : Int32), .int (0 : Int32), .int (0 : Int32), .int (0 : Int32), .int (0 : Int32), .int (0 : Int32), .int (0 : Int32), .int (0 : Int32), .int (0 : Int32), .int (0 : Int32), .int (0 : Int32), .int (0 : Int32), .int (0 : Int32), .int (0 : Int32), .int (0 : Int32), .int (0 : Int32)]))]) at_375 rfl (by decide) (by show _ < 23; decide) rfl rfl ?_
  refine C.dup (q := 377) at_376 rfl rfl ?_
  refine C.iconst (q := 378) (z := (5 : Int32)) at_377 rfl rfl ?_
  refine C.iload (q := 380) at_378 rfl rfl ?_
  refine C.bastore (q := 381) 1 (H' := [(a22, .inl (.long, [.long (1 : Int64), .long (10 : Int64), .long (100 : Int64), .long (1000 : Int64), .long (10000 : Int64), .long (100000 : Int64), .long (1000000 : Int64), .long (10000000 : Int64), .long (100000000 : Int64), .long (1000000000 : Int64), .long (10000000000 : Int64), .long (100000000000 : Int64), .long (1000000000000 : Int64), .long (10000000000000 : Int64), .long (100000000000000 : Int64), .long (1000000000000000 : Int64), .long (10000000000000000 : Int64), .long (100000000000000000 : Int64), .long (1000000000000000000 : Int64)])), (a349, .inl (.byte, [.int (nar .byte e.toInt8.toInt32), .int (nar .byte e.toInt8.toInt32), .int (nar .byte e.toInt8.toInt32), .int (nar .byte e.toInt8.toInt32), .int (nar .byte e.toInt8.toInt32), .int (nar .byte e.toInt8.toInt32), .int (0 : Int32), .int (0 : Int32), .int (0 : Int32), .int (0 : Int32), .int (0 : Int32), .int (0 : Int32), .int (0 : Int32), .int (0 : Int32), .int (0 : Int32), .int (0 : Int32), .int (0 : Int32), .int (0 : Int32), .int (0 : Int32), .int (0 : Int32), .int (0 : Int32), .int (0 : Int32), .int (0 : Int32)]))]) at_380 rfl (by decide) (by show _ < 23; decide) rfl rfl ?_
  refine C.dup (q := 382) at_381 rfl rfl ?_
  refine C.bipush (q := 384) (z := (6 : Int32)) at_382 rfl rfl ?_
  refine C.iload (q := 386) at_384 rfl rfl ?_
  refine C.bastore (q := 387) 1 (H' := [(a22, .inl (.long, [.long (1 : Int64), .long (10 : Int64), .long (100 : Int64), .long (1000 : Int64), .long (10000 : Int64), .long (100000 : Int64), .long (1000000 : Int64), .long (10000000 : Int64), .long (100000000 : Int64), .long (1000000000 : Int64), .long (10000000000 : Int64), .long (100000000000 : Int64), .long (1000000000000 : Int64), .long (10000000000000 : Int64), .long (100000000000000 : Int64), .long (1000000000000000 : Int64), .long (10000000000000000 : Int64), .long (100000000000000000 : Int64), .long (1000000000000000000 : Int64)])), (a349, .inl (.byte, [.int (nar .byte e.toInt8.toInt32), .int (nar .byte e.toInt8.toInt32), .int (nar .byte e.toInt8.toInt32), .int (nar .byte e.toInt8.toInt32), .int (nar .byte e.toInt8.toInt32), .int (nar .byte e.toInt8.toInt32), .int (nar .byte e.toInt8.toInt32), .int (0 : Int32), .int (0 : Int32), .int (0 : Int32), .int (0 : Int32), .int (0 : Int32), .int (0 : Int32), .int (0 : Int32), .int (0 : Int32), .int (0 : Int32), .int (0 : Int32), .int (0 : Int32), .int (0 : Int32), .int (0 : Int32), .int (0 : Int32), .int (0 : Int32), .int (0 : Int32)]))]) at_386 rfl (by decide) (by show _ < 23; decide) rfl rfl ?_
  refine C.dup (q := 388) at_387 rfl rfl ?_
  refine C.bipush (q := 390) (z := (7 : Int32)) at_388 rfl rfl ?_
  refine C.iload (q := 392) at_390 rfl rfl ?_
  refine C.bastore (q := 393) 1 (H' := [(a22, .inl (.long, [.long (1 : Int64), .long (10 : Int64), .long (100 : Int64), .long (1000 : Int64), .long (10000 : Int64), .long (100000 : Int64), .long (1000000 : Int64), .long (10000000 : Int64), .long (100000000 : Int64), .long (1000000000 : Int64), .long (10000000000 : Int64), .long (100000000000 : Int64), .long (1000000000000 : Int64), .long (10000000000000 : Int64), .long (100000000000000 : Int64), .long (1000000000000000 : Int64), .long (10000000000000000 : Int64), .long (100000000000000000 : Int64), .long (1000000000000000000 : Int64)])), (a349, .inl (.byte, [.int (nar .byte e.toInt8.toInt32), .int (nar .byte e.toInt8.toInt32), .int (nar .byte e.toInt8.toInt32), .int (nar .byte e.toInt8.toInt32), .int (nar .byte e.toInt8.toInt32), .int (nar .byte e.toInt8.toInt32), .int (nar .byte e.toInt8.toInt32), .int (nar .byte e.toInt8.toInt32), .int (0 : Int32), .int (0 : Int32), .int (0 : Int32), .int (0 : Int32), .int (0 : Int32), .int (0 : Int32), .int (0 : Int32), .int (0 : Int32), .int (0 : Int32), .int (0 : Int32), .int (0 : Int32), .int (0 : Int32), .int (0 : Int32), .int (0 : Int32), .int (0 : Int32)]))]) at_392 rfl (by decide) (by show _ < 23; decide) rfl rfl ?_
  refine C.dup (q := 394) at_393 rfl rfl ?_
  refine C.bipush (q := 396) (z := (8 : Int32)) at_394 rfl rfl ?_
  refine C.iload (q := 398) at_396 rfl rfl ?_
  refine C.bastore (q := 399) 1 (H' := [(a22, .inl (.long, [.long (1 : Int64), .long (10 : Int64), .long (100 : Int64), .long (1000 : Int64), .long (10000 : Int64), .long (100000 : Int64), .long (1000000 : Int64), .long (10000000 : Int64), .long (100000000 : Int64), .long (1000000000 : Int64), .long (10000000000 : Int64), .long (100000000000 : Int64), .long (1000000000000 : Int64), .long (10000000000000 : Int64), .long (100000000000000 : Int64), .long (1000000000000000 : Int64), .long (10000000000000000 : Int64), .long (100000000000000000 : Int64), .long (1000000000000000000 : Int64)])), (a349, .inl (.byte, [.int (nar .byte e.toInt8.toInt32), .int (nar .byte e.toInt8.toInt32), .int (nar .byte e.toInt8.toInt32), .int (nar .byte e.toInt8.toInt32), .int (nar .byte e.toInt8.toInt32), .int (nar .byte e.toInt8.toInt32), .int (nar .byte e.toInt8.toInt32), .int (nar .byte e.toInt8.toInt32), .int (nar .byte e.toInt8.toInt32), .int (0 : Int32), .int (0 : Int32), .int (0 : Int32), .int (0 : Int32), .int (0 : Int32), .int (0 : Int32), .int (0 : Int32), .int (0 : Int32), .int (0 : Int32), .int (0 : Int32), .int (0 : Int32), .int (0 : Int32), .int (0 : Int32), .int (0 : Int32)]))]) at_398 rfl (by decide) (by show _ < 23; decide) rfl rfl ?_
  refine C.dup (q := 400) at_399 rfl rfl ?_
  refine C.bipush (q := 402) (z := (9 : Int32)) at_400 rfl rfl ?_
  refine C.iload (q := 404) at_402 rfl rfl ?_
  refine C.bastore (q := 405) 1 (H' := [(a22, .inl (.long, [.long (1 : Int64), .long (10 : Int64), .long (100 : Int64), .long (1000 : Int64), .long (10000 : Int64), .long (100000 : Int64), .long (1000000 : Int64), .long (10000000 : Int64), .long (100000000 : Int64), .long (1000000000 : Int64), .long (10000000000 : Int64), .long (100000000000 : Int64), .long (1000000000000 : Int64), .long (10000000000000 : Int64), .long (100000000000000 : Int64), .long (1000000000000000 : Int64), .long (10000000000000000 : Int64), .long (100000000000000000 : Int64), .long (1000000000000000000 : Int64)])), (a349, .inl (.byte, [.int (nar .byte e.toInt8.toInt32), .int (nar .byte e.toInt8.toInt32), .int (nar .byte e.toInt8.toInt32), .int (nar .byte e.toInt8.toInt32), .int (nar .byte e.toInt8.toInt32), .int (nar .byte e.toInt8.toInt32), .int (nar .byte e.toInt8.toInt32), .int (nar .byte e.toInt8.toInt32), .int (nar .byte e.toInt8.toInt32), .int (nar .byte e.toInt8.toInt32), .int (0 : Int32), .int (0 : Int32), .int (0 : Int32), .int (0 : Int32), .int (0 : Int32), .int (0 : Int32), .int (0 : Int32), .int (0 : Int32), .int (0 : Int32), .int (0 : Int32), .int (0 : Int32), .int (0 : Int32), .int (0 : Int32)]))]) at_404 rfl (by decide) (by show _ < 23; decide) rfl rfl ?_
  refine C.dup (q := 406) at_405 rfl rfl ?_
  refine C.bipush (q := 408) (z := (10 : Int32)) at_406 rfl rfl ?_
  refine C.iload (q := 410) at_408 rfl rfl ?_
  refine C.bastore (q := 411) 1 (H' := [(a22, .inl (.long, [.long (1 : Int64), .long (10 : Int64), .long (100 : Int64), .long (1000 : Int64), .long (10000 : Int64), .long (100000 : Int64), .long (1000000 : Int64), .long (10000000 : Int64), .long (100000000 : Int64), .long (1000000000 : Int64), .long (10000000000 : Int64), .long (100000000000 : Int64), .long (1000000000000 : Int64), .long (10000000000000 : Int64), .long (100000000000000 : Int64), .long (1000000000000000 : Int64), .long (10000000000000000 : Int64), .long (100000000000000000 : Int64), .long (1000000000000000000 : Int64)])), (a349, .inl (.byte, [.int (nar .byte e.toInt8.toInt32), .int (nar .byte e.toInt8.toInt32), .int (nar .byte e.toInt8.toInt32), .int (nar .byte e.toInt8.toInt32), .int (nar .byte e.toInt8.toInt32), .int (nar .byte e.toInt8.toInt32), .int (nar .byte e.toInt8.toInt32), .int (nar .byte e.toInt8.toInt32), .int (nar .byte e.toInt8.toInt32), .int (nar .byte e.toInt8.toInt32), .int (nar .byte e.toInt8.toInt32), .int (0 : Int32), .int (0 : Int32), .int (0 : Int32), .int (0 : Int32), .int (0 : Int32), .int (0 : Int32), .int (0 : Int32), .int (0 : Int32), .int (0 : Int32), .int (0 : Int32), .int (0 : Int32), .int (0 : Int32)]))]) at_410 rfl (by decide) (by show _ < 23; decide) rfl rfl ?_
  refine C.dup (q := 412) at_411 rfl rfl ?_
  refine C.bipush (q := 414) (z := (11 : Int32)) at_412 rfl rfl ?_
  refine C.iload (q := 416) at_414 rfl rfl ?_
  refine C.bastore (q := 417) 1 (H' := [(a22, .inl (.long, [.long (1 : Int64), .long (10 : Int64), .long (100 : Int64), .long (1000 : Int64), .long (10000 : Int64), .long (100000 : Int64), .long (1000000 : Int64), .long (10000000 : Int64), .long (100000000 : Int64), .long (1000000000 : Int64), .long (10000000000 : Int64), .long (100000000000 : Int64), .long (1000000000000 : Int64), .long (10000000000000 : Int64), .long (100000000000000 : Int64), .long (1000000000000000 : Int64), .long (10000000000000000 : Int64), .long (100000000000000000 : Int64), .long (1000000000000000000 : Int64)])), (a349, .inl (.byte, [.int (nar .byte e.toInt8.toInt32), .int (nar .byte e.toInt8.toInt32), .int (nar .byte e.toInt8.toInt32), .int (nar .byte e.toInt8.toInt32), .int (nar .byte e.toInt8.toInt32), .int (nar .byte e.toInt8.toInt32), .int (nar .byte e.toInt8.toInt32), .int (nar .byte e.toInt8.toInt32), .int (nar .byte e.toInt8.toInt32), .int (nar .byte e.toInt8.toInt32), .int (nar .byte e.toInt8.toInt32), .int (nar .byte e.toInt8.toInt32), .int (0 : Int32), .int (0 : Int32), .int (0 : Int32), .int (0 : Int32), .int (0 : Int32), .int (0 : Int32), .int (0 : Int32), .int (0 : Int32), .int (0 : Int32), .int (0 : Int32), .int (0 : Int32)]))]) at_416 rfl (by decide) (by show _ < 23; decide) rfl rfl ?_
  refine C.dup (q := 418) at_417 rfl rfl ?_
  refine C.bipush (q := 420) (z := (12 : Int32)) at_418 rfl rfl ?_
  refine C.iload (q := 422) at_420 rfl rfl ?_
  refine C.bastore (q := 423) 1 (H' := [(a22, .inl (.long, [.long (1 : Int64), .long (10 : Int64), .long (100 : Int64), .long (1000 : Int64), .long (10000 : Int64), .long (100000 : Int64), .long (1000000 : Int64), .long (10000000 : Int64), .long (100000000 : Int64), .long (1000000000 : Int64), .long (10000000000 : Int64), .long (100000000000 : Int64), .long (1000000000000 : Int64), .long (10000000000000 : Int64), .long (100000000000000 : Int64), .long (1000000000000000 : Int64), .long (10000000000000000 : Int64), .long (100000000000000000 : Int64), .long (1000000000000000000 : Int64)])), (a349, .inl (.byte, [.int (nar .byte e.toInt8.toInt32), .int (nar .byte e.toInt8.toInt32), .int (nar .byte e.toInt8.toInt32), .int (nar .byte e.toInt8.toInt32), .int (nar .byte e.toInt8.toInt32), .int (nar .byte e.toInt8.toInt32), .int (nar .byte e.toInt8.toInt32), .int (nar .byte e.toInt8.toInt32), .int (nar .byte e.toInt8.toInt32), .int (nar .byte e.toInt8.toInt32), .int (nar .byte e.toInt8.toInt32), .int (nar .byte e.toInt8.toInt32), .int (nar .byte e.toInt8.toInt32), .int (0 : Int32), .int (0 : Int32), .int (0 : Int32), .int (0 : Int32), .int (0 : Int32), .int (0 : Int32), .int (0 : Int32), .int (0 : Int32), .int (0 : Int32), .int (0 : Int32)]))]) at_422 rfl (by decide) (by show _ < 23; decide) rfl rfl ?_
  refine C.dup (q := 424) at_423 rfl rfl ?_
  refine C.bipush (q := 426) (z := (13 : Int32)) at_424 rfl rfl ?_
  refine C.iload (q := 428) at_426 rfl rfl ?_
  refine C.bastore (q := 429) 1 (H' := [(a22, .inl (.long, [.long (1 : Int64), .long (10 : Int64), .long (100 : Int64), .long (1000 : Int64), .long (10000 : Int64), .long (100000 : Int64), .long (1000000 : Int64), .long (10000000 : Int64), .long (100000000 : Int64), .long (1000000000 : Int64), .long (10000000000 : Int64), .long (100000000000 : Int64), .long (1000000000000 : Int64), .long (10000000000000 : Int64), .long (100000000000000 : Int64), .long (1000000000000000 : Int64), .long (10000000000000000 : Int64), .long (100000000000000000 : Int64), .long (1000000000000000000 : Int64)])), (a349, .inl (.byte, [.int (nar .byte e.toInt8.toInt32), .int (nar .byte e.toInt8.toInt32), .int (nar .byte e.toInt8.toInt32), .int (nar .byte e.toInt8.toInt32), .int (nar .byte e.toInt8.toInt32), .int (nar .byte e.toInt8.toInt32), .int (nar .byte e.toInt8.toInt32), .int (nar .byte e.toInt8.toInt32), .int (nar .byte e.toInt8.toInt32), .int (nar .byte e.toInt8.toInt32), .int (nar .byte e.toInt8.toInt32), .int (nar .byte e.toInt8.toInt32), .int (nar .byte e.toInt8.toInt32), .int (nar .byte e.toInt8.toInt32), .int (0 : Int32), .int (0 : Int32), .int (0 : Int32), .int (0 : Int32), .int (0 : Int32), .int (0 : Int32), .int (0 : Int32), .int (0 : Int32), .int (0 : Int32)]))]) at_428 rfl (by decide) (by show _ < 23; decide) rfl rfl ?_
  refine C.dup (q := 430) at_429 rfl rfl ?_
  refine C.bipush (q := 432) (z := (14 : Int32)) at_430 rfl rfl ?_
  refine C.iload (q := 434) at_432 rfl rfl ?_
  refine C.bastore (q := 435) 1 (H' := [(a22, .inl (.long, [.long (1 : Int64), .long (10 : Int64), .long (100 : Int64), .long (1000 : Int64), .long (10000 : Int64), .long (100000 : Int64), .long (1000000 : Int64), .long (10000000 : Int64), .long (100000000 : Int64), .long (1000000000 : Int64), .long (10000000000 : Int64), .long (100000000000 : Int64), .long (1000000000000 : Int64), .long (10000000000000 : Int64), .long (100000000000000 : Int64), .long (1000000000000000 : Int64), .long (10000000000000000 : Int64), .long (100000000000000000 : Int64), .long (1000000000000000000 : Int64)])), (a349, .inl (.byte, [.int (nar .byte e.toInt8.toInt32), .int (nar .byte e.toInt8.toInt32), .int (nar .byte e.toInt8.toInt32), .int (nar .byte e.toInt8.toInt32), .int (nar .byte e.toInt8.toInt32), .int (nar .byte e.toInt8.toInt32), .int (nar .byte e.toInt8.toInt32), .int (nar .byte e.toInt8.toInt32), .int (nar .byte e.toInt8.toInt32), .int (nar .byte e.toInt8.toInt32), .int (nar .byte e.toInt8.toInt32), .int (nar .byte e.toInt8.toInt32), .int (nar .byte e.toInt8.toInt32), .int (nar .byte e.toInt8.toInt32), .int (nar .byte e.toInt8.toInt32), .int (0 : Int32), .int (0 : Int32), .int (0 : Int32), .int (0 : Int32), .int (0 : Int32), .int (0 : Int32), .int (0 : Int32), .int (0 : Int32)]))]) at_434 rfl (by decide) (by show _ < 23; decide) rfl rfl ?_
  refine C.dup (q := 436) at_435 rfl rfl ?_
  refine C.bipush (q := 438) (z := (15 : Int32)) at_436 rfl rfl ?_
  refine C.iload (q := 440) at_438 rfl rfl ?_
  refine C.bastore (q := 441) 1 (H' := [(a22, .inl (.long, [.long (1 : Int64), .long (10 : Int64), .long (100 : Int64), .long (1000 : Int64), .long (10000 : Int64), .long (100000 : Int64), .long (1000000 : Int64), .long (10000000 : Int64), .long (100000000 : Int64), .long (1000000000 : Int64), .long (10000000000 : Int64), .long (100000000000 : Int64), .long (1000000000000 : Int64), .long (10000000000000 : Int64), .long (100000000000000 : Int64), .long (1000000000000000 : Int64), .long (10000000000000000 : Int64), .long (100000000000000000 : Int64), .long (1000000000000000000 : Int64)])), (a349, .inl (.byte, [.int (nar .byte e.toInt8.toInt32), .int (nar .byte e.toInt8.toInt32), .int (nar .byte e.toInt8.toInt32), .int (nar .byte e.toInt8.toInt32), .int (nar .byte e.toInt8.toInt32), .int (nar .byte e.toInt8.toInt32), .int (nar .byte e.toInt8.toInt32), .int (nar .byte e.toInt8.toInt32), .int (nar .byte e.toInt8.toInt32), .int (nar .byte e.toInt8.toInt32), .int (nar .byte e.toInt8.toInt32), .int (nar .byte e.toInt8.toInt32), .int (nar .byte e.toInt8.toInt32), .int (nar .byte e.toInt8.toInt32), .int (nar .byte e.toInt8.toInt32), .int (nar .byte e.toInt8.toInt32), .int (0 : Int32), .int (0 : Int32), .int (0 : Int32), .int (0 : Int32), .int (0 : Int32), .int (0 : Int32), .int (0 : Int32)]))]) at_440 rfl (by decide) (by show _ < 23; decide) rfl rfl ?_
  refine C.dup (q := 442) at_441 rfl rfl ?_
  refine C.bipush (q := 444) (z := (16 : Int32)) at_442 rfl rfl ?_
  refine C.iload (q := 446) at_444 rfl rfl ?_
  refine C.bastore (q := 447) 1 (H' := [(a22, .inl (.long, [.long (1 : Int64), .long (10 : Int64), .long (100 : Int64), .long (1000 : Int64), .long (10000 : Int64), .long (100000 : Int64), .long (1000000 : Int64), .long (10000000 : Int64), .long (100000000 : Int64), .long (1000000000 : Int64), .long (10000000000 : Int64), .long (100000000000 : Int64), .long (1000000000000 : Int64), .long (10000000000000 : Int64), .long (100000000000000 : Int64), .long (1000000000000000 : Int64), .long (10000000000000000 : Int64), .long (100000000000000000 : Int64), .long (1000000000000000000 : Int64)])), (a349, .inl (.byte, [.int (nar .byte e.toInt8.toInt32), .int (nar .byte e.toInt8.toInt32), .int (nar .byte e.toInt8.toInt32), .int (nar .byte e.toInt8.toInt32), .int (nar .byte e.toInt8.toInt32), .int (nar .byte e.toInt8.toInt32), .int (nar .byte e.toInt8.toInt32), .int (nar .byte e.toInt8.toInt32), .int (nar .byte e.toInt8.toInt32), .int (nar .byte e.toInt8.toInt32), .int (nar .byte e.toInt8.toInt32), .int (nar .byte e.toInt8.toInt32), .int (nar .byte e.toInt8.toInt32), .int (nar .byte e.toInt8.toInt32), .int (nar .byte e.toInt8.toInt32), .int (nar .byte e.toInt8.toInt32), .int (nar .byte e.toInt8.toInt32), .int (0 : Int32), .int (0 : Int32), .int (0 : Int32), .int (0 : Int32), .int (0 : Int32), .int (0 : Int32)]))]) at_446 rfl (by decide) (by show _ < 23; decide) rfl rfl ?_
  refine C.dup (q := 448) at_447 rfl rfl ?_
  refine C.bipush (q := 450) (z := (17 : Int32)) at_448 rfl rfl ?_
  refine C.iload (q := 452) at_450 rfl rfl ?_
  refine C.bastore (q := 453) 1 (H' := [(a22, .inl (.long, [.long (1 : Int64), .long (10 : Int64), .long (100 : Int64), .long (1000 : Int64), .long (10000 : Int64), .long (100000 : Int64), .long (1000000 : Int64), .long (10000000 : Int64), .long (100000000 : Int64), .long (1000000000 : Int64), .long (10000000000 : Int64), .long (100000000000 : Int64), .long (1000000000000 : Int64), .long (10000000000000 : Int64), .long (100000000000000 : Int64), .long (1000000000000000 : Int64), .long (10000000000000000 : Int64), .long (100000000000000000 : Int64), .long (1000000000000000000 : Int64)])), (a349, .inl (.byte, [.int (nar .byte e.toInt8.toInt32), .int (nar .byte e.toInt8.toInt32), .int (nar .byte e.toInt8.toInt32), .int (nar .byte e.toInt8.toInt32), .int (nar .byte e.toInt8.toInt32), .int (nar .byte e.toInt8.toInt32), .int (nar .byte e.toInt8.toInt32), .int (nar .byte e.toInt8.toInt32), .int (nar .byte e.toInt8.toInt32), .int (nar .byte e.toInt8.toInt32), .int (nar .byte e.toInt8.toInt32), .int (nar .byte e.toInt8.toInt32), .int (nar .byte e.toInt8.toInt32), .int (nar .byte e.toInt8.toInt32), .int (nar .byte e.toInt8.toInt32), .int (nar .byte e.toInt8.toInt32), .int (nar .byte e.toInt8.toInt32), .int (nar .byte e.toInt8.toInt32), .int (0 : Int32), .int (0 : Int32), .int (0 : Int32), .int (0 : Int32), .int (0 : Int32)]))]) at_452 rfl (by decide) (by show _ < 23; decide) rfl rfl ?_
  refine C.dup (q := 454) at_453 rfl rfl ?_
  refine C.bipush (q := 456) (z := (18 : Int32)) at_454 rfl rfl ?_
  refine C.iload (q := 458) at_456 rfl rfl ?_
  refine C.bastore (q := 459) 1 (H' := [(a22, .inl (.long, [.long (1 : Int64), .long (10 : Int64), .long (100 : Int64), .long (1000 : Int64), .long (10000 : Int64), .long (100000 : Int64), .long (1000000 : Int64), .long (10000000 : Int64), .long (100000000 : Int64), .long (1000000000 : Int64), .long (10000000000 : Int64), .long (100000000000 : Int64), .long (1000000000000 : Int64), .long (10000000000000 : Int64), .long (100000000000000 : Int64), .long (1000000000000000 : Int64), .long (10000000000000000 : Int64), .long (100000000000000000 : Int64), .long (1000000000000000000 : Int64)])), (a349, .inl (.byte, [.int (nar .byte e.toInt8.toInt32), .int (nar .byte e.toInt8.toInt32), .int (nar .byte e.toInt8.toInt32), .int (nar .byte e.toInt8.toInt32), .int (nar .byte e.toInt8.toInt32), .int (nar .byte e.toInt8.toInt32), .int (nar .byte e.toInt8.toInt32), .int (nar .byte e.toInt8.toInt32), .int (nar .byte e.toInt8.toInt32), .int (nar .byte e.toInt8.toInt32), .int (nar .byte e.toInt8.toInt32), .int (nar .byte e.toInt8.toInt32), .int (nar .byte e.toInt8.toInt32), .int (nar .byte e.toInt8.toInt32), .int (nar .byte e.toInt8.toInt32), .int (nar .byte e.toInt8.toInt32), .int (nar .byte e.toInt8.toInt32), .int (nar .byte e.toInt8.toInt32), .int (nar .byte e.toInt8.toInt32), .int (0 : Int32), .int (0 : Int32), .int (0 : Int32), .int (0 : Int32)]))]) at_458 rfl (by decide) (by show _ < 23; decide) rfl rfl ?_
  refine C.dup (q := 460) at_459 rfl rfl ?_
  refine C.bipush (q := 462) (z := (19 : Int32)) at_460 rfl rfl ?_
  refine C.iload (q := 464) at_462 rfl rfl ?_
  refine C.bastore (q := 465) 1 (H' := [(a22, .inl (.long, [.long (1 : Int64), .long (10 : Int64), .long (100 : Int64), .long (1000 : Int64), .long (10000 : Int64), .long (100000 : Int64), .long (1000000 : Int64), .long (10000000 : Int64), .long (100000000 : Int64), .long (1000000000 : Int64), .long (10000000000 : Int64), .long (100000000000 : Int64), .long (1000000000000 : Int64), .long (10000000000000 : Int64), .long (100000000000000 : Int64), .long (1000000000000000 : Int64), .long (10000000000000000 : Int64), .long (100000000000000000 : Int64), .long (1000000000000000000 : Int64)])), (a349, .inl (.byte, [.int (nar .byte e.toInt8.toInt32), .int (nar .byte e.toInt8.toInt32), .int (nar .byte e.toInt8.toInt32), .int (nar .byte e.toInt8.toInt32), .int (nar .byte e.toInt8.toInt32), .int (nar .byte e.toInt8.toInt32), .int (nar .byte e.toInt8.toInt32), .int (nar .byte e.toInt8.toInt32), .int (nar .byte e.toInt8.toInt32), .int (nar .byte e.toInt8.toInt32), .int (nar .byte e.toInt8.toInt32), .int (nar .byte e.toInt8.toInt32), .int (nar .byte e.toInt8.toInt32), .int (nar .byte e.toInt8.toInt32), .int (nar .byte e.toInt8.toInt32), .int (nar .byte e.toInt8.toInt32), .int (nar .byte e.toInt8.toInt32), .int (nar .byte e.toInt8.toInt32), .int (nar .byte e.toInt8.toInt32), .int (nar .byte e.toInt8.toInt32), .int (0 : Int32), .int (0 : Int32), .int (0 : Int32)]))]) at_464 rfl (by decide) (by show _ < 23; decide) rfl rfl ?_
  refine C.dup (q := 466) at_465 rfl rfl ?_
  refine C.bipush (q := 468) (z := (20 : Int32)) at_466 rfl rfl ?_
  refine C.iload (q := 470) at_468 rfl rfl ?_
  refine C.bastore (q := 471) 1 (H' := [(a22, .inl (.long, [.long (1 : Int64), .long (10 : Int64), .long (100 : Int64), .long (1000 : Int64), .long (10000 : Int64), .long (100000 : Int64), .long (1000000 : Int64), .long (10000000 : Int64), .long (100000000 : Int64), .long (1000000000 : Int64), .long (10000000000 : Int64), .long (100000000000 : Int64), .long (1000000000000 : Int64), .long (10000000000000 : Int64), .long (100000000000000 : Int64), .long (1000000000000000 : Int64), .long (10000000000000000 : Int64), .long (100000000000000000 : Int64), .long (1000000000000000000 : Int64)])), (a349, .inl (.byte, [.int (nar .byte e.toInt8.toInt32), .int (nar .byte e.toInt8.toInt32), .int (nar .byte e.toInt8.toInt32), .int (nar .byte e.toInt8.toInt32), .int (nar .byte e.toInt8.toInt32), .int (nar .byte e.toInt8.toInt32), .int (nar .byte e.toInt8.toInt32), .int (nar .byte e.toInt8.toInt32), .int (nar .byte e.toInt8.toInt32), .int (nar .byte e.toInt8.toInt32), .int (nar .byte e.toInt8.toInt32), .int (nar .byte e.toInt8.toInt32), .int (nar .byte e.toInt8.toInt32), .int (nar .byte e.toInt8.toInt32), .int (nar .byte e.toInt8.toInt32), .int (nar .byte e.toInt8.toInt32), .int (nar .byte e.toInt8.toInt32), .int (nar .byte e.toInt8.toInt32), .int (nar .byte e.toInt8.toInt32), .int (nar .byte e.toInt8.toInt32), .int (nar .byte e.toInt8.toInt32), .int (0 : Int32), .int (0 : Int32)]))]) at_470 rfl (by decide) (by show _ < 23; decide) rfl rfl ?_
  refine C.dup (q := 472) at_471 rfl rfl ?_
  refine C.bipush (q := 474) (z := (21 : Int32)) at_472 rfl rfl ?_
  refine C.iload (q := 476) at_474 rfl rfl ?_
  refine C.bastore (q := 477) 1 (H' := [(a22, .inl (.long, [.long (1 : Int64), .long (10 : Int64), .long (100 : Int64), .long (1000 : Int64), .long (10000 : Int64), .long (100000 : Int64), .long (1000000 : Int64), .long (10000000 : Int64), .long (100000000 : Int64), .long (1000000000 : Int64), .long (10000000000 : Int64), .long (100000000000 : Int64), .long (1000000000000 : Int64), .long (10000000000000 : Int64), .long (100000000000000 : Int64), .long (1000000000000000 : Int64), .long (10000000000000000 : Int64), .long (100000000000000000 : Int64), .long (1000000000000000000 : Int64)])), (a349, .inl (.byte, [.int (nar .byte e.toInt8.toInt32), .int (nar .byte e.toInt8.toInt32), .int (nar .byte e.toInt8.toInt32), .int (nar .byte e.toInt8.toInt32), .int (nar .byte e.toInt8.toInt32), .int (nar .byte e.toInt8.toInt32), .int (nar .byte e.toInt8.toInt32), .int (nar .byte e.toInt8.toInt32), .int (nar .byte e.toInt8.toInt32), .int (nar .byte e.toInt8.toInt32), .int (nar .byte e.toInt8.toInt32), .int (nar .byte e.toInt8.toInt32), .int (nar .byte e.toInt8.toInt32), .int (nar .byte e.toInt8.toInt32), .int (nar .byte e.toInt8.toInt32), .int (nar .byte e.toInt8.toInt32), .int (nar .byte e.toInt8.toInt32), .int (nar .byte e.toInt8.toInt32), .int (nar .byte e.toInt8.toInt32), .int (nar .byte e.toInt8.toInt32), .int (nar .byte e.toInt8.toInt32), .int (nar .byte e.toInt8.toInt32), .int (0 : Int32)]))]) at_476 rfl (by decide) (by show _ < 23; decide) rfl rfl ?_
  refine C.dup (q := 478) at_477 rfl rfl ?_
  refine C.bipush (q := 480) (z := (22 : Int32)) at_478 rfl rfl ?_
  refine C.iload (q := 482) at_480 rfl rfl ?_
  refine C.bastore (q := 483) 1 (H' := [(a22, .inl (.long, [.long (1 : Int64), .long (10 : Int64), .long (100 : Int64), .long (1000 : Int64), .long (10000 : Int64), .long (100000 : Int64), .long (1000000 : Int64), .long (10000000 : Int64), .long (100000000 : Int64), .long (1000000000 : Int64), .long (10000000000 : Int64), .long (100000000000 : Int64), .long (1000000000000 : Int64), .long (10000000000000 : Int64), .long (100000000000000 : Int64), .long (1000000000000000 : Int64), .long (10000000000000000 : Int64), .long (100000000000000000 : Int64), .long (1000000000000000000 : Int64)])), (a349, .inl (.byte, [.int (nar .byte e.toInt8.toInt32), .int (nar .byte e.toInt8.toInt32), .int (nar .byte e.toInt8.toInt32), .int (nar .byte e.toInt8.toInt32), .int (nar .byte e.toInt8.toInt32), .int (nar .byte e.toInt8.toInt32), .int (nar .byte e.toInt8.toInt32), .int (nar .byte e.toInt8.toInt32), .int (nar .byte e.toInt8.toInt32), .int (nar .byte e.toInt8.toInt32), .int (nar .byte e.toInt8.toInt32), .int (nar .byte e.toInt8.toInt32), .int (nar .byte e.toInt8.toInt32), .int (nar .byte e.toInt8.toInt32), .int (nar .byte e.toInt8.toInt32), .int (nar .byte e.toInt8.toInt32), .int (nar .byte e.toInt8.toInt32), .int (nar .byte e.toInt8.toInt32), .int (nar .byte e.toInt8.toInt32), .int (nar .byte e.toInt8.toInt32), .int (nar .byte e.toInt8.toInt32), .int (nar .byte e.toInt8.toInt32), .int (nar .byte e.toInt8.toInt32)]))]) at_482 rfl (by decide) (by show _ < 23; decide) rfl rfl ?_
  show G 2 42 [(a22, .inl (.long, [.long (1 : Int64), .long (10 : Int64), .long (100 : Int64), .long (1000 : Int64), .long (10000 : Int64), .long (100000 : Int64), .long (1000000 : Int64), .long (10000000 : Int64), .long (100000000 : Int64), .long (1000000000 : Int64), .long (10000000000 : Int64), .long (100000000000 : Int64), .long (1000000000000 : Int64), .long (10000000000000 : Int64), .long (100000000000000 : Int64), .long (1000000000000000 : Int64), .long (10000000000000000 : Int64), .long (100000000000000000 : Int64), .long (1000000000000000000 : Int64)])), (a349, .inl (.byte, (own_arr fun _ => nar .byte e.toInt8.toInt32)))] 483 [.val (.long a), .second, .val (.int b), .val (.int c), .val (.int e), .val (.long v), .second, .val (.int (Int32.ofNat t)), .val (.int e.toInt8.toInt32), .val (.ref a22), .val (.int (Int32.ofNat (own_r 18 v.toInt.toNat))), .unset, .unset, .unset] [.ref a349]
  refine C.astore (q := 485) (ls' := [.val (.long a), .second, .val (.int b), .val (.int c), .val (.int e), .val (.long v), .second, .val (.int (Int32.ofNat t)), .val (.int e.toInt8.toInt32), .val (.ref a22), .val (.int (Int32.ofNat (own_r 18 v.toInt.toNat))), .val (.ref a349), .unset, .unset]) at_483 rfl rfl rfl ?_
  refine C.lload (q := 487) at_485 rfl rfl ?_
  refine C.aload (q := 489) at_487 rfl rfl rfl ?_
  refine C.iload (q := 491) at_489 rfl rfl ?_
  refine C.callS (q := 494) 0 [.long v, .ref a349, .int (Int32.ofNat t)] [] at_491 (hw _ (List.mem_of_getElem? (i := 24) rfl)) (hw _ (List.mem_of_getElem? (i := 25) rfl)) (hw _ (List.mem_of_getElem? (i := 26) rfl)) (hw _ (List.mem_of_getElem? (i := 27) rfl)) (own_c3 l Z a0 n0 hw [] a349 v _ t _ hv0 ht) (by decide) (by decide) (by decide) own_pd2 rfl rfl rfl (Nat.le_of_eq rfl) (by decide) (by decide) rfl ?_
  rintro _ _ ⟨rfl, hE⟩
  rw [hE]
  show G 2 42 [(a22, .inl (.long, [.long (1 : Int64), .long (10 : Int64), .long (100 : Int64), .long (1000 : Int64), .long (10000 : Int64), .long (100000 : Int64), .long (1000000 : Int64), .long (10000000 : Int64), .long (100000000 : Int64), .long (1000000000 : Int64), .long (10000000000 : Int64), .long (100000000000 : Int64), .long (1000000000000 : Int64), .long (10000000000000 : Int64), .long (100000000000000 : Int64), .long (1000000000000000 : Int64), .long (10000000000000000 : Int64), .long (100000000000000000 : Int64), .long (1000000000000000000 : Int64)])), (a349, .inl (.byte, (own_arr (own_pt t (own_r 18 v.toInt.toNat) v fun _ => nar .byte e.toInt8.toInt32))))] 494 [.val (.long a), .second, .val (.int b), .val (.int c), .val (.int e), .val (.long v), .second, .val (.int (Int32.ofNat t)), .val (.int e.toInt8.toInt32), .val (.ref a22), .val (.int (Int32.ofNat (own_r 18 v.toInt.toNat))), .val (.ref a349), .unset, .unset] [.int (Int32.ofNat (t + (own_r 18 v.toInt.toNat)))]
  refine C.istore (q := 496) (ls' := [.val (.long a), .second, .val (.int b), .val (.int c), .val (.int e), .val (.long v), .second, .val (.int (Int32.ofNat t)), .val (.int e.toInt8.toInt32), .val (.ref a22), .val (.int (Int32.ofNat (own_r 18 v.toInt.toNat))), .val (.ref a349), .val (.int (Int32.ofNat (t + (own_r 18 v.toInt.toNat)))), .unset]) at_494 rfl rfl ?_
  refine C.iload (q := 498) at_496 rfl rfl ?_
  refine C.iload (q := 500) at_498 rfl rfl ?_
  refine C.iload (q := 502) at_500 rfl rfl ?_
  refine C.iadd (q := 503) at_502 rfl ?_
  refine C.icmpNe (q := 510) (q' := 506) at_503 (by decide) (by decide) rfl (fun h503 => ?_) (fun h503 => absurd (Int32.ofNat_add _ _) h503)
  refine C.iconst (q := 507) (z := (1 : Int32)) at_506 rfl rfl ?_
  refine C.goto (q := 511) at_507 (by decide) (by decide) ?_
  refine C.istore (q := 513) (ls' := [.val (.long a), .second, .val (.int b), .val (.int c), .val (.int e), .val (.long v), .second, .val (.int (Int32.ofNat t)), .val (.int e.toInt8.toInt32), .val (.ref a22), .val (.int (Int32.ofNat (own_r 18 v.toInt.toNat))), .val (.ref a349), .val (.int (Int32.ofNat (t + (own_r 18 v.toInt.toNat)))), .val (.int (1 : Int32))]) at_511 rfl rfl ?_
  refine C.iload (q := 515) at_513 rfl rfl ?_
  refine C.aload (q := 517) at_515 rfl rfl rfl ?_
  refine C.iload (q := 519) at_517 rfl rfl ?_
  refine C.iload (q := 521) at_519 rfl rfl ?_
  refine C.iload (q := 523) at_521 rfl rfl ?_
  refine C.lload (q := 525) at_523 rfl rfl ?_
  refine C.aload (q := 527) at_525 rfl rfl rfl ?_
  refine C.iconst (q := 528) (z := (0 : Int32)) at_527 rfl rfl ?_
  refine C.callS (q := 531) 1 [.ref a349, .int e.toInt8.toInt32, .int (Int32.ofNat t), .int (Int32.ofNat (own_r 18 v.toInt.toNat)), .long v, .ref a22, .int (0 : Int32)] [.int (1 : Int32)] at_528 (hw _ (List.mem_of_getElem? (i := 33) rfl)) (hw _ (List.mem_of_getElem? (i := 34) rfl)) (hw _ (List.mem_of_getElem? (i := 21) rfl)) (hw _ (List.mem_of_getElem? (i := 35) rfl)) (own_c5 l Z a0 n0 hw [] a349 a22 e.toInt8.toInt32 t (own_r 18 v.toInt.toNat) v 0 _ hv0 ht (own_r_ge 18 _) (own_r_le 18 _) (by decide) hfb (own_pt_at t _ v _)) (by decide) (by decide) (by decide) own_pd3 rfl rfl rfl (Nat.le_of_eq rfl) (by decide) (by decide) rfl ?_
  rintro _ _ ⟨rfl, hE⟩
  rw [hE]
  show G 2 42 [(a22, .inl (.long, [.long (1 : Int64), .long (10 : Int64), .long (100 : Int64), .long (1000 : Int64), .long (10000 : Int64), .long (100000 : Int64), .long (1000000 : Int64), .long (10000000 : Int64), .long (100000000 : Int64), .long (1000000000 : Int64), .long (10000000000 : Int64), .long (100000000000 : Int64), .long (1000000000000 : Int64), .long (10000000000000 : Int64), .long (100000000000000 : Int64), .long (1000000000000000 : Int64), .long (10000000000000000 : Int64), .long (100000000000000000 : Int64), .long (1000000000000000000 : Int64)])), (a349, .inl (.byte, (own_arr (own_pt t (own_r 18 v.toInt.toNat) v fun _ => nar .byte e.toInt8.toInt32))))] 531 [.val (.long a), .second, .val (.int b), .val (.int c), .val (.int e), .val (.long v), .second, .val (.int (Int32.ofNat t)), .val (.int e.toInt8.toInt32), .val (.ref a22), .val (.int (Int32.ofNat (own_r 18 v.toInt.toNat))), .val (.ref a349), .val (.int (Int32.ofNat (t + (own_r 18 v.toInt.toNat)))), .val (.int (1 : Int32))] [.int (1 : Int32), .int (1 : Int32)]
  refine C.iand (q := 532) at_531 rfl ?_
  show G 2 42 [(a22, .inl (.long, [.long (1 : Int64), .long (10 : Int64), .long (100 : Int64), .long (1000 : Int64), .long (10000 : Int64), .long (100000 : Int64), .long (1000000 : Int64), .long (10000000 : Int64), .long (100000000 : Int64), .long (1000000000 : Int64), .long (10000000000 : Int64), .long (100000000000 : Int64), .long (1000000000000 : Int64), .long (10000000000000 : Int64), .long (100000000000000 : Int64), .long (1000000000000000 : Int64), .long (10000000000000000 : Int64), .long (100000000000000000 : Int64), .long (1000000000000000000 : Int64)])), (a349, .inl (.byte, (own_arr (own_pt t (own_r 18 v.toInt.toNat) v fun _ => nar .byte e.toInt8.toInt32))))] 532 [.val (.long a), .second, .val (.int b), .val (.int c), .val (.int e), .val (.long v), .second, .val (.int (Int32.ofNat t)), .val (.int e.toInt8.toInt32), .val (.ref a22), .val (.int (Int32.ofNat (own_r 18 v.toInt.toNat))), .val (.ref a349), .val (.int (Int32.ofNat (t + (own_r 18 v.toInt.toNat)))), .val (.int (1 : Int32))] [.int (1 : Int32)]
  refine C.istore (q := 534) (ls' := [.val (.long a), .second, .val (.int b), .val (.int c), .val (.int e), .val (.long v), .second, .val (.int (Int32.ofNat t)), .val (.int e.toInt8.toInt32), .val (.ref a22), .val (.int (Int32.ofNat (own_r 18 v.toInt.toNat))), .val (.ref a349), .val (.int (Int32.ofNat (t + (own_r 18 v.toInt.toNat)))), .val (.int (1 : Int32))]) at_532 rfl rfl ?_
  refine C.iload (q := 536) at_534 rfl rfl ?_
  refine C.aload (q := 538) at_536 rfl rfl rfl ?_
  refine C.iload (q := 540) at_538 rfl rfl ?_
  refine C.iload (q := 542) at_540 rfl rfl ?_
  refine C.iload (q := 544) at_542 rfl rfl ?_
  refine C.lload (q := 546) at_544 rfl rfl ?_
  refine C.aload (q := 548) at_546 rfl rfl rfl ?_
  refine C.iconst (q := 549) (z := (1 : Int32)) at_548 rfl rfl ?_
  refine C.callS (q := 552) 1 [.ref a349, .int e.toInt8.toInt32, .int (Int32.ofNat t), .int (Int32.ofNat (own_r 18 v.toInt.toNat)), .long v, .ref a22, .int (1 : Int32)] [.int (1 : Int32)] at_549 (hw _ (List.mem_of_getElem? (i := 33) rfl)) (hw _ (List.mem_of_getElem? (i := 34) rfl)) (hw _ (List.mem_of_getElem? (i := 21) rfl)) (hw _ (List.mem_of_getElem? (i := 35) rfl)) (own_c5 l Z a0 n0 hw [] a349 a22 e.toInt8.toInt32 t (own_r 18 v.toInt.toNat) v 1 _ hv0 ht (own_r_ge 18 _) (own_r_le 18 _) (by decide) hfb (own_pt_at t _ v _)) (by decide) (by decide) (by decide) own_pd3 rfl rfl rfl (Nat.le_of_eq rfl) (by decide) (by decide) rfl ?_
  rintro _ _ ⟨rfl, hE⟩
  rw [hE]
  show G 2 42 [(a22, .inl (.long, [.long (1 : Int64), .long (10 : Int64), .long (100 : Int64), .long (1000 : Int64), .long (10000 : Int64), .long (100000 : Int64), .long (1000000 : Int64), .long (10000000 : Int64), .long (100000000 : Int64), .long (1000000000 : Int64), .long (10000000000 : Int64), .long (100000000000 : Int64), .long (1000000000000 : Int64), .long (10000000000000 : Int64), .long (100000000000000 : Int64), .long (1000000000000000 : Int64), .long (10000000000000000 : Int64), .long (100000000000000000 : Int64), .long (1000000000000000000 : Int64)])), (a349, .inl (.byte, (own_arr (own_pt t (own_r 18 v.toInt.toNat) v fun _ => nar .byte e.toInt8.toInt32))))] 552 [.val (.long a), .second, .val (.int b), .val (.int c), .val (.int e), .val (.long v), .second, .val (.int (Int32.ofNat t)), .val (.int e.toInt8.toInt32), .val (.ref a22), .val (.int (Int32.ofNat (own_r 18 v.toInt.toNat))), .val (.ref a349), .val (.int (Int32.ofNat (t + (own_r 18 v.toInt.toNat)))), .val (.int (1 : Int32))] [.int (1 : Int32), .int (1 : Int32)]
  refine C.iand (q := 553) at_552 rfl ?_
  show G 2 42 [(a22, .inl (.long, [.long (1 : Int64), .long (10 : Int64), .long (100 : Int64), .long (1000 : Int64), .long (10000 : Int64), .long (100000 : Int64), .long (1000000 : Int64), .long (10000000 : Int64), .long (100000000 : Int64), .long (1000000000 : Int64), .long (10000000000 : Int64), .long (100000000000 : Int64), .long (1000000000000 : Int64), .long (10000000000000 : Int64), .long (100000000000000 : Int64), .long (1000000000000000 : Int64), .long (10000000000000000 : Int64), .long (100000000000000000 : Int64), .long (1000000000000000000 : Int64)])), (a349, .inl (.byte, (own_arr (own_pt t (own_r 18 v.toInt.toNat) v fun _ => nar .byte e.toInt8.toInt32))))] 553 [.val (.long a), .second, .val (.int b), .val (.int c), .val (.int e), .val (.long v), .second, .val (.int (Int32.ofNat t)), .val (.int e.toInt8.toInt32), .val (.ref a22), .val (.int (Int32.ofNat (own_r 18 v.toInt.toNat))), .val (.ref a349), .val (.int (Int32.ofNat (t + (own_r 18 v.toInt.toNat)))), .val (.int (1 : Int32))] [.int (1 : Int32)]
  refine C.istore (q := 555) (ls' := [.val (.long a), .second, .val (.int b), .val (.int c), .val (.int e), .val (.long v), .second, .val (.int (Int32.ofNat t)), .val (.int e.toInt8.toInt32), .val (.ref a22), .val (.int (Int32.ofNat (own_r 18 v.toInt.toNat))), .val (.ref a349), .val (.int (Int32.ofNat (t + (own_r 18 v.toInt.toNat)))), .val (.int (1 : Int32))]) at_553 rfl rfl ?_
  refine C.iload (q := 557) at_555 rfl rfl ?_
  refine C.aload (q := 559) at_557 rfl rfl rfl ?_
  refine C.iload (q := 561) at_559 rfl rfl ?_
  refine C.iload (q := 563) at_561 rfl rfl ?_
  refine C.iload (q := 565) at_563 rfl rfl ?_
  refine C.lload (q := 567) at_565 rfl rfl ?_
  refine C.aload (q := 569) at_567 rfl rfl rfl ?_
  refine C.iconst (q := 570) (z := (2 : Int32)) at_569 rfl rfl ?_
  refine C.callS (q := 573) 1 [.ref a349, .int e.toInt8.toInt32, .int (Int32.ofNat t), .int (Int32.ofNat (own_r 18 v.toInt.toNat)), .long v, .ref a22, .int (2 : Int32)] [.int (1 : Int32)] at_570 (hw _ (List.mem_of_getElem? (i := 33) rfl)) (hw _ (List.mem_of_getElem? (i := 34) rfl)) (hw _ (List.mem_of_getElem? (i := 21) rfl)) (hw _ (List.mem_of_getElem? (i := 35) rfl)) (own_c5 l Z a0 n0 hw [] a349 a22 e.toInt8.toInt32 t (own_r 18 v.toInt.toNat) v 2 _ hv0 ht (own_r_ge 18 _) (own_r_le 18 _) (by decide) hfb (own_pt_at t _ v _)) (by decide) (by decide) (by decide) own_pd3 rfl rfl rfl (Nat.le_of_eq rfl) (by decide) (by decide) rfl ?_
  rintro _ _ ⟨rfl, hE⟩
  rw [hE]
  show G 2 42 [(a22, .inl (.long, [.long (1 : Int64), .long (10 : Int64), .long (100 : Int64), .long (1000 : Int64), .long (10000 : Int64), .long (100000 : Int64), .long (1000000 : Int64), .long (10000000 : Int64), .long (100000000 : Int64), .long (1000000000 : Int64), .long (10000000000 : Int64), .long (100000000000 : Int64), .long (1000000000000 : Int64), .long (10000000000000 : Int64), .long (100000000000000 : Int64), .long (1000000000000000 : Int64), .long (10000000000000000 : Int64), .long (100000000000000000 : Int64), .long (1000000000000000000 : Int64)])), (a349, .inl (.byte, (own_arr (own_pt t (own_r 18 v.toInt.toNat) v fun _ => nar .byte e.toInt8.toInt32))))] 573 [.val (.long a), .second, .val (.int b), .val (.int c), .val (.int e), .val (.long v), .second, .val (.int (Int32.ofNat t)), .val (.int e.toInt8.toInt32), .val (.ref a22), .val (.int (Int32.ofNat (own_r 18 v.toInt.toNat))), .val (.ref a349), .val (.int (Int32.ofNat (t + (own_r 18 v.toInt.toNat)))), .val (.int (1 : Int32))] [.int (1 : Int32), .int (1 : Int32)]
  refine C.iand (q := 574) at_573 rfl ?_
  show G 2 42 [(a22, .inl (.long, [.long (1 : Int64), .long (10 : Int64), .long (100 : Int64), .long (1000 : Int64), .long (10000 : Int64), .long (100000 : Int64), .long (1000000 : Int64), .long (10000000 : Int64), .long (100000000 : Int64), .long (1000000000 : Int64), .long (10000000000 : Int64), .long (100000000000 : Int64), .long (1000000000000 : Int64), .long (10000000000000 : Int64), .long (100000000000000 : Int64), .long (1000000000000000 : Int64), .long (10000000000000000 : Int64), .long (100000000000000000 : Int64), .long (1000000000000000000 : Int64)])), (a349, .inl (.byte, (own_arr (own_pt t (own_r 18 v.toInt.toNat) v fun _ => nar .byte e.toInt8.toInt32))))] 574 [.val (.long a), .second, .val (.int b), .val (.int c), .val (.int e), .val (.long v), .second, .val (.int (Int32.ofNat t)), .val (.int e.toInt8.toInt32), .val (.ref a22), .val (.int (Int32.ofNat (own_r 18 v.toInt.toNat))), .val (.ref a349), .val (.int (Int32.ofNat (t + (own_r 18 v.toInt.toNat)))), .val (.int (1 : Int32))] [.int (1 : Int32)]
  refine C.istore (q := 576) (ls' := [.val (.long a), .second, .val (.int b), .val (.int c), .val (.int e), .val (.long v), .second, .val (.int (Int32.ofNat t)), .val (.int e.toInt8.toInt32), .val (.ref a22), .val (.int (Int32.ofNat (own_r 18 v.toInt.toNat))), .val (.ref a349), .val (.int (Int32.ofNat (t + (own_r 18 v.toInt.toNat)))), .val (.int (1 : Int32))]) at_574 rfl rfl ?_
  refine C.iload (q := 578) at_576 rfl rfl ?_
  refine C.aload (q := 580) at_578 rfl rfl rfl ?_
  refine C.iload (q := 582) at_580 rfl rfl ?_
  refine C.iload (q := 584) at_582 rfl rfl ?_
  refine C.iload (q := 586) at_584 rfl rfl ?_
  refine C.lload (q := 588) at_586 rfl rfl ?_
  refine C.aload (q := 590) at_588 rfl rfl rfl ?_
  refine C.iconst (q := 591) (z := (3 : Int32)) at_590 rfl rfl ?_
  refine C.callS (q := 594) 1 [.ref a349, .int e.toInt8.toInt32, .int (Int32.ofNat t), .int (Int32.ofNat (own_r 18 v.toInt.toNat)), .long v, .ref a22, .int (3 : Int32)] [.int (1 : Int32)] at_591 (hw _ (List.mem_of_getElem? (i := 33) rfl)) (hw _ (List.mem_of_getElem? (i := 34) rfl)) (hw _ (List.mem_of_getElem? (i := 21) rfl)) (hw _ (List.mem_of_getElem? (i := 35) rfl)) (own_c5 l Z a0 n0 hw [] a349 a22 e.toInt8.toInt32 t (own_r 18 v.toInt.toNat) v 3 _ hv0 ht (own_r_ge 18 _) (own_r_le 18 _) (by decide) hfb (own_pt_at t _ v _)) (by decide) (by decide) (by decide) own_pd3 rfl rfl rfl (Nat.le_of_eq rfl) (by decide) (by decide) rfl ?_
  rintro _ _ ⟨rfl, hE⟩
  rw [hE]
  show G 2 42 [(a22, .inl (.long, [.long (1 : Int64), .long (10 : Int64), .long (100 : Int64), .long (1000 : Int64), .long (10000 : Int64), .long (100000 : Int64), .long (1000000 : Int64), .long (10000000 : Int64), .long (100000000 : Int64), .long (1000000000 : Int64), .long (10000000000 : Int64), .long (100000000000 : Int64), .long (1000000000000 : Int64), .long (10000000000000 : Int64), .long (100000000000000 : Int64), .long (1000000000000000 : Int64), .long (10000000000000000 : Int64), .long (100000000000000000 : Int64), .long (1000000000000000000 : Int64)])), (a349, .inl (.byte, (own_arr (own_pt t (own_r 18 v.toInt.toNat) v fun _ => nar .byte e.toInt8.toInt32))))] 594 [.val (.long a), .second, .val (.int b), .val (.int c), .val (.int e), .val (.long v), .second, .val (.int (Int32.ofNat t)), .val (.int e.toInt8.toInt32), .val (.ref a22), .val (.int (Int32.ofNat (own_r 18 v.toInt.toNat))), .val (.ref a349), .val (.int (Int32.ofNat (t + (own_r 18 v.toInt.toNat)))), .val (.int (1 : Int32))] [.int (1 : Int32), .int (1 : Int32)]
  refine C.iand (q := 595) at_594 rfl ?_
  show G 2 42 [(a22, .inl (.long, [.long (1 : Int64), .long (10 : Int64), .long (100 : Int64), .long (1000 : Int64), .long (10000 : Int64), .long (100000 : Int64), .long (1000000 : Int64), .long (10000000 : Int64), .long (100000000 : Int64), .long (1000000000 : Int64), .long (10000000000 : Int64), .long (100000000000 : Int64), .long (1000000000000 : Int64), .long (10000000000000 : Int64), .long (100000000000000 : Int64), .long (1000000000000000 : Int64), .long (10000000000000000 : Int64), .long (100000000000000000 : Int64), .long (1000000000000000000 : Int64)])), (a349, .inl (.byte, (own_arr (own_pt t (own_r 18 v.toInt.toNat) v fun _ => nar .byte e.toInt8.toInt32))))] 595 [.val (.long a), .second, .val (.int b), .val (.int c), .val (.int e), .val (.long v), .second, .val (.int (Int32.ofNat t)), .val (.int e.toInt8.toInt32), .val (.ref a22), .val (.int (Int32.ofNat (own_r 18 v.toInt.toNat))), .val (.ref a349), .val (.int (Int32.ofNat (t + (own_r 18 v.toInt.toNat)))), .val (.int (1 : Int32))] [.int (1 : Int32)]
  refine C.istore (q := 597) (ls' := [.val (.long a), .second, .val (.int b), .val (.int c), .val (.int e), .val (.long v), .second, .val (.int (Int32.ofNat t)), .val (.int e.toInt8.toInt32), .val (.ref a22), .val (.int (Int32.ofNat (own_r 18 v.toInt.toNat))), .val (.ref a349), .val (.int (Int32.ofNat (t + (own_r 18 v.toInt.toNat)))), .val (.int (1 : Int32))]) at_595 rfl rfl ?_
  refine C.iload (q := 599) at_597 rfl rfl ?_
  refine C.aload (q := 601) at_599 rfl rfl rfl ?_
  refine C.iload (q := 603) at_601 rfl rfl ?_
  refine C.iload (q := 605) at_603 rfl rfl ?_
  refine C.iload (q := 607) at_605 rfl rfl ?_
  refine C.lload (q := 609) at_607 rfl rfl ?_
  refine C.aload (q := 611) at_609 rfl rfl rfl ?_
  refine C.iconst (q := 612) (z := (4 : Int32)) at_611 rfl rfl ?_
  refine C.callS (q := 615) 1 [.ref a349, .int e.toInt8.toInt32, .int (Int32.ofNat t), .int (Int32.ofNat (own_r 18 v.toInt.toNat)), .long v, .ref a22, .int (4 : Int32)] [.int (1 : Int32)] at_612 (hw _ (List.mem_of_getElem? (i := 33) rfl)) (hw _ (List.mem_of_getElem? (i := 34) rfl)) (hw _ (List.mem_of_getElem? (i := 21) rfl)) (hw _ (List.mem_of_getElem? (i := 35) rfl)) (own_c5 l Z a0 n0 hw [] a349 a22 e.toInt8.toInt32 t (own_r 18 v.toInt.toNat) v 4 _ hv0 ht (own_r_ge 18 _) (own_r_le 18 _) (by decide) hfb (own_pt_at t _ v _)) (by decide) (by decide) (by decide) own_pd3 rfl rfl rfl (Nat.le_of_eq rfl) (by decide) (by decide) rfl ?_
  rintro _ _ ⟨rfl, hE⟩
  rw [hE]
  show G 2 42 [(a22, .inl (.long, [.long (1 : Int64), .long (10 : Int64), .long (100 : Int64), .long (1000 : Int64), .long (10000 : Int64), .long (100000 : Int64), .long (1000000 : Int64), .long (10000000 : Int64), .long (100000000 : Int64), .long (1000000000 : Int64), .long (10000000000 : Int64), .long (100000000000 : Int64), .long (1000000000000 : Int64), .long (10000000000000 : Int64), .long (100000000000000 : Int64), .long (1000000000000000 : Int64), .long (10000000000000000 : Int64), .long (100000000000000000 : Int64), .long (1000000000000000000 : Int64)])), (a349, .inl (.byte, (own_arr (own_pt t (own_r 18 v.toInt.toNat) v fun _ => nar .byte e.toInt8.toInt32))))] 615 [.val (.long a), .second, .val (.int b), .val (.int c), .val (.int e), .val (.long v), .second, .val (.int (Int32.ofNat t)), .val (.int e.toInt8.toInt32), .val (.ref a22), .val (.int (Int32.ofNat (own_r 18 v.toInt.toNat))), .val (.ref a349), .val (.int (Int32.ofNat (t + (own_r 18 v.toInt.toNat)))), .val (.int (1 : Int32))] [.int (1 : Int32), .int (1 : Int32)]
  refine C.iand (q := 616) at_615 rfl ?_
  show G 2 42 [(a22, .inl (.long, [.long (1 : Int64), .long (10 : Int64), .long (100 : Int64), .long (1000 : Int64), .long (10000 : Int64), .long (100000 : Int64), .long (1000000 : Int64), .long (10000000 : Int64), .long (100000000 : Int64), .long (1000000000 : Int64), .long (10000000000 : Int64), .long (100000000000 : Int64), .long (1000000000000 : Int64), .long (10000000000000 : Int64), .long (100000000000000 : Int64), .long (1000000000000000 : Int64), .long (10000000000000000 : Int64), .long (100000000000000000 : Int64), .long (1000000000000000000 : Int64)])), (a349, .inl (.byte, (own_arr (own_pt t (own_r 18 v.toInt.toNat) v fun _ => nar .byte e.toInt8.toInt32))))] 616 [.val (.long a), .second, .val (.int b), .val (.int c), .val (.int e), .val (.long v), .second, .val (.int (Int32.ofNat t)), .val (.int e.toInt8.toInt32), .val (.ref a22), .val (.int (Int32.ofNat (own_r 18 v.toInt.toNat))), .val (.ref a349), .val (.int (Int32.ofNat (t + (own_r 18 v.toInt.toNat)))), .val (.int (1 : Int32))] [.int (1 : Int32)]
  refine C.istore (q := 618) (ls' := [.val (.long a), .second, .val (.int b), .val (.int c), .val (.int e), .val (.long v), .second, .val (.int (Int32.ofNat t)), .val (.int e.toInt8.toInt32), .val (.ref a22), .val (.int (Int32.ofNat (own_r 18 v.toInt.toNat))), .val (.ref a349), .val (.int (Int32.ofNat (t + (own_r 18 v.toInt.toNat)))), .val (.int (1 : Int32))]) at_616 rfl rfl ?_
  refine C.iload (q := 620) at_618 rfl rfl ?_
  refine C.aload (q := 622) at_620 rfl rfl rfl ?_
  refine C.iload (q := 624) at_622 rfl rfl ?_
  refine C.iload (q := 626) at_624 rfl rfl ?_
  refine C.iload (q := 628) at_626 rfl rfl ?_
  refine C.lload (q := 630) at_628 rfl rfl ?_
  refine C.aload (q := 632) at_630 rfl rfl rfl ?_
  refine C.iconst (q := 633) (z := (5 : Int32)) at_632 rfl rfl ?_
  refine C.callS (q := 636) 1 [.ref a349, .int e.toInt8.toInt32, .int (Int32.ofNat t), .int (Int32.ofNat (own_r 18 v.toInt.toNat)), .long v, .ref a22, .int (5 : Int32)] [.int (1 : Int32)] at_633 (hw _ (List.mem_of_getElem? (i := 33) rfl)) (hw _ (List.mem_of_getElem? (i := 34) rfl)) (hw _ (List.mem_of_getElem? (i := 21) rfl)) (hw _ (List.mem_of_getElem? (i := 35) rfl)) (own_c5 l Z a0 n0 hw [] a349 a22 e.toInt8.toInt32 t (own_r 18 v.toInt.toNat) v 5 _ hv0 ht (own_r_ge 18 _) (own_r_le 18 _) (by decide) hfb (own_pt_at t _ v _)) (by decide) (by decide) (by decide) own_pd3 rfl rfl rfl (Nat.le_of_eq rfl) (by decide) (by decide) rfl ?_
  rintro _ _ ⟨rfl, hE⟩
  rw [hE]
  show G 2 42 [(a22, .inl (.long, [.long (1 : Int64), .long (10 : Int64), .long (100 : Int64), .long (1000 : Int64), .long (10000 : Int64), .long (100000 : Int64), .long (1000000 : Int64), .long (10000000 : Int64), .long (100000000 : Int64), .long (1000000000 : Int64), .long (10000000000 : Int64), .long (100000000000 : Int64), .long (1000000000000 : Int64), .long (10000000000000 : Int64), .long (100000000000000 : Int64), .long (1000000000000000 : Int64), .long (10000000000000000 : Int64), .long (100000000000000000 : Int64), .long (1000000000000000000 : Int64)])), (a349, .inl (.byte, (own_arr (own_pt t (own_r 18 v.toInt.toNat) v fun _ => nar .byte e.toInt8.toInt32))))] 636 [.val (.long a), .second, .val (.int b), .val (.int c), .val (.int e), .val (.long v), .second, .val (.int (Int32.ofNat t)), .val (.int e.toInt8.toInt32), .val (.ref a22), .val (.int (Int32.ofNat (own_r 18 v.toInt.toNat))), .val (.ref a349), .val (.int (Int32.ofNat (t + (own_r 18 v.toInt.toNat)))), .val (.int (1 : Int32))] [.int (1 : Int32), .int (1 : Int32)]
  refine C.iand (q := 637) at_636 rfl ?_
  show G 2 42 [(a22, .inl (.long, [.long (1 : Int64), .long (10 : Int64), .long (100 : Int64), .long (1000 : Int64), .long (10000 : Int64), .long (100000 : Int64), .long (1000000 : Int64), .long (10000000 : Int64), .long (100000000 : Int64), .long (1000000000 : Int64), .long (10000000000 : Int64), .long (100000000000 : Int64), .long (1000000000000 : Int64), .long (10000000000000 : Int64), .long (100000000000000 : Int64), .long (1000000000000000 : Int64), .long (10000000000000000 : Int64), .long (100000000000000000 : Int64), .long (1000000000000000000 : Int64)])), (a349, .inl (.byte, (own_arr (own_pt t (own_r 18 v.toInt.toNat) v fun _ => nar .byte e.toInt8.toInt32))))] 637 [.val (.long a), .second, .val (.int b), .val (.int c), .val (.int e), .val (.long v), .second, .val (.int (Int32.ofNat t)), .val (.int e.toInt8.toInt32), .val (.ref a22), .val (.int (Int32.ofNat (own_r 18 v.toInt.toNat))), .val (.ref a349), .val (.int (Int32.ofNat (t + (own_r 18 v.toInt.toNat)))), .val (.int (1 : Int32))] [.int (1 : Int32)]
  refine C.istore (q := 639) (ls' := [.val (.long a), .second, .val (.int b), .val (.int c), .val (.int e), .val (.long v), .second, .val (.int (Int32.ofNat t)), .val (.int e.toInt8.toInt32), .val (.ref a22), .val (.int (Int32.ofNat (own_r 18 v.toInt.toNat))), .val (.ref a349), .val (.int (Int32.ofNat (t + (own_r 18 v.toInt.toNat)))), .val (.int (1 : Int32))]) at_637 rfl rfl ?_
  refine C.iload (q := 641) at_639 rfl rfl ?_
  refine C.aload (q := 643) at_641 rfl rfl rfl ?_
  refine C.iload (q := 645) at_643 rfl rfl ?_
  refine C.iload (q := 647) at_645 rfl rfl ?_
  refine C.iload (q := 649) at_647 rfl rfl ?_
  refine C.lload (q := 651) at_649 rfl rfl ?_
  refine C.aload (q := 653) at_651 rfl rfl rfl ?_
  refine C.bipush (q := 655) (z := (6 : Int32)) at_653 rfl rfl ?_
  refine C.callS (q := 658) 1 [.ref a349, .int e.toInt8.toInt32, .int (Int32.ofNat t), .int (Int32.ofNat (own_r 18 v.toInt.toNat)), .long v, .ref a22, .int (6 : Int32)] [.int (1 : Int32)] at_655 (hw _ (List.mem_of_getElem? (i := 33) rfl)) (hw _ (List.mem_of_getElem? (i := 34) rfl)) (hw _ (List.mem_of_getElem? (i := 21) rfl)) (hw _ (List.mem_of_getElem? (i := 35) rfl)) (own_c5 l Z a0 n0 hw [] a349 a22 e.toInt8.toInt32 t (own_r 18 v.toInt.toNat) v 6 _ hv0 ht (own_r_ge 18 _) (own_r_le 18 _) (by decide) hfb (own_pt_at t _ v _)) (by decide) (by decide) (by decide) own_pd3 rfl rfl rfl (Nat.le_of_eq rfl) (by decide) (by decide) rfl ?_
  rintro _ _ ⟨rfl, hE⟩
  rw [hE]
  show G 2 42 [(a22, .inl (.long, [.long (1 : Int64), .long (10 : Int64), .long (100 : Int64), .long (1000 : Int64), .long (10000 : Int64), .long (100000 : Int64), .long (1000000 : Int64), .long (10000000 : Int64), .long (100000000 : Int64), .long (1000000000 : Int64), .long (10000000000 : Int64), .long (100000000000 : Int64), .long (1000000000000 : Int64), .long (10000000000000 : Int64), .long (100000000000000 : Int64), .long (1000000000000000 : Int64), .long (10000000000000000 : Int64), .long (100000000000000000 : Int64), .long (1000000000000000000 : Int64)])), (a349, .inl (.byte, (own_arr (own_pt t (own_r 18 v.toInt.toNat) v fun _ => nar .byte e.toInt8.toInt32))))] 658 [.val (.long a), .second, .val (.int b), .val (.int c), .val (.int e), .val (.long v), .second, .val (.int (Int32.ofNat t)), .val (.int e.toInt8.toInt32), .val (.ref a22), .val (.int (Int32.ofNat (own_r 18 v.toInt.toNat))), .val (.ref a349), .val (.int (Int32.ofNat (t + (own_r 18 v.toInt.toNat)))), .val (.int (1 : Int32))] [.int (1 : Int32), .int (1 : Int32)]
  refine C.iand (q := 659) at_658 rfl ?_
  show G 2 42 [(a22, .inl (.long, [.long (1 : Int64), .long (10 : Int64), .long (100 : Int64), .long (1000 : Int64), .long (10000 : Int64), .long (100000 : Int64), .long (1000000 : Int64), .long (10000000 : Int64), .long (100000000 : Int64), .long (1000000000 : Int64), .long (10000000000 : Int64), .long (100000000000 : Int64), .long (1000000000000 : Int64), .long (10000000000000 : Int64), .long (100000000000000 : Int64), .long (1000000000000000 : Int64), .long (10000000000000000 : Int64), .long (100000000000000000 : Int64), .long (1000000000000000000 : Int64)])), (a349, .inl (.byte, (own_arr (own_pt t (own_r 18 v.toInt.toNat) v fun _ => nar .byte e.toInt8.toInt32))))] 659 [.val (.long a), .second, .val (.int b), .val (.int c), .val (.int e), .val (.long v), .second, .val (.int (Int32.ofNat t)), .val (.int e.toInt8.toInt32), .val (.ref a22), .val (.int (Int32.ofNat (own_r 18 v.toInt.toNat))), .val (.ref a349), .val (.int (Int32.ofNat (t + (own_r 18 v.toInt.toNat)))), .val (.int (1 : Int32))] [.int (1 : Int32)]
  refine C.istore (q := 661) (ls' := [.val (.long a), .second, .val (.int b), .val (.int c), .val (.int e), .val (.long v), .second, .val (.int (Int32.ofNat t)), .val (.int e.toInt8.toInt32), .val (.ref a22), .val (.int (Int32.ofNat (own_r 18 v.toInt.toNat))), .val (.ref a349), .val (.int (Int32.ofNat (t + (own_r 18 v.toInt.toNat)))), .val (.int (1 : Int32))]) at_659 rfl rfl ?_
  refine C.iload (q := 663) at_661 rfl rfl ?_
  refine C.aload (q := 665) at_663 rfl rfl rfl ?_
  refine C.iload (q := 667) at_665 rfl rfl ?_
  refine C.iload (q := 669) at_667 rfl rfl ?_
  refine C.iload (q := 671) at_669 rfl rfl ?_
  refine C.lload (q := 673) at_671 rfl rfl ?_
  refine C.aload (q := 675) at_673 rfl rfl rfl ?_
  refine C.bipush (q := 677) (z := (7 : Int32)) at_675 rfl rfl ?_
  refine C.callS (q := 680) 1 [.ref a349, .int e.toInt8.toInt32, .int (Int32.ofNat t), .int (Int32.ofNat (own_r 18 v.toInt.toNat)), .long v, .ref a22, .int (7 : Int32)] [.int (1 : Int32)] at_677 (hw _ (List.mem_of_getElem? (i := 33) rfl)) (hw _ (List.mem_of_getElem? (i := 34) rfl)) (hw _ (List.mem_of_getElem? (i := 21) rfl)) (hw _ (List.mem_of_getElem? (i := 35) rfl)) (own_c5 l Z a0 n0 hw [] a349 a22 e.toInt8.toInt32 t (own_r 18 v.toInt.toNat) v 7 _ hv0 ht (own_r_ge 18 _) (own_r_le 18 _) (by decide) hfb (own_pt_at t _ v _)) (by decide) (by decide) (by decide) own_pd3 rfl rfl rfl (Nat.le_of_eq rfl) (by decide) (by decide) rfl ?_
  rintro _ _ ⟨rfl, hE⟩
  rw [hE]
  show G 2 42 [(a22, .inl (.long, [.long (1 : Int64), .long (10 : Int64), .long (100 : Int64), .long (1000 : Int64), .long (10000 : Int64), .long (100000 : Int64), .long (1000000 : Int64), .long (10000000 : Int64), .long (100000000 : Int64), .long (1000000000 : Int64), .long (10000000000 : Int64), .long (100000000000 : Int64), .long (1000000000000 : Int64), .long (10000000000000 : Int64), .long (100000000000000 : Int64), .long (1000000000000000 : Int64), .long (10000000000000000 : Int64), .long (100000000000000000 : Int64), .long (1000000000000000000 : Int64)])), (a349, .inl (.byte, (own_arr (own_pt t (own_r 18 v.toInt.toNat) v fun _ => nar .byte e.toInt8.toInt32))))] 680 [.val (.long a), .second, .val (.int b), .val (.int c), .val (.int e), .val (.long v), .second, .val (.int (Int32.ofNat t)), .val (.int e.toInt8.toInt32), .val (.ref a22), .val (.int (Int32.ofNat (own_r 18 v.toInt.toNat))), .val (.ref a349), .val (.int (Int32.ofNat (t + (own_r 18 v.toInt.toNat)))), .val (.int (1 : Int32))] [.int (1 : Int32), .int (1 : Int32)]
  refine C.iand (q := 681) at_680 rfl ?_
  show G 2 42 [(a22, .inl (.long, [.long (1 : Int64), .long (10 : Int64), .long (100 : Int64), .long (1000 : Int64), .long (10000 : Int64), .long (100000 : Int64), .long (1000000 : Int64), .long (10000000 : Int64), .long (100000000 : Int64), .long (1000000000 : Int64), .long (10000000000 : Int64), .long (100000000000 : Int64), .long (1000000000000 : Int64), .long (10000000000000 : Int64), .long (100000000000000 : Int64), .long (1000000000000000 : Int64), .long (10000000000000000 : Int64), .long (100000000000000000 : Int64), .long (1000000000000000000 : Int64)])), (a349, .inl (.byte, (own_arr (own_pt t (own_r 18 v.toInt.toNat) v fun _ => nar .byte e.toInt8.toInt32))))] 681 [.val (.long a), .second, .val (.int b), .val (.int c), .val (.int e), .val (.long v), .second, .val (.int (Int32.ofNat t)), .val (.int e.toInt8.toInt32), .val (.ref a22), .val (.int (Int32.ofNat (own_r 18 v.toInt.toNat))), .val (.ref a349), .val (.int (Int32.ofNat (t + (own_r 18 v.toInt.toNat)))), .val (.int (1 : Int32))] [.int (1 : Int32)]
  refine C.istore (q := 683) (ls' := [.val (.long a), .second, .val (.int b), .val (.int c), .val (.int e), .val (.long v), .second, .val (.int (Int32.ofNat t)), .val (.int e.toInt8.toInt32), .val (.ref a22), .val (.int (Int32.ofNat (own_r 18 v.toInt.toNat))), .val (.ref a349), .val (.int (Int32.ofNat (t + (own_r 18 v.toInt.toNat)))), .val (.int (1 : Int32))]) at_681 rfl rfl ?_
  refine C.iload (q := 685) at_683 rfl rfl ?_
  refine C.aload (q := 687) at_685 rfl rfl rfl ?_
  refine C.iload (q := 689) at_687 rfl rfl ?_
  refine C.iload (q := 691) at_689 rfl rfl ?_
  refine C.iload (q := 693) at_691 rfl rfl ?_
  refine C.lload (q := 695) at_693 rfl rfl ?_
  refine C.aload (q := 697) at_695 rfl rfl rfl ?_
  refine C.bipush (q := 699) (z := (8 : Int32)) at_697 rfl rfl ?_
  refine C.callS (q := 702) 1 [.ref a349, .int e.toInt8.toInt32, .int (Int32.ofNat t), .int (Int32.ofNat (own_r 18 v.toInt.toNat)), .long v, .ref a22, .int (8 : Int32)] [.int (1 : Int32)] at_699 (hw _ (List.mem_of_getElem? (i := 33) rfl)) (hw _ (List.mem_of_getElem? (i := 34) rfl)) (hw _ (List.mem_of_getElem? (i := 21) rfl)) (hw _ (List.mem_of_getElem? (i := 35) rfl)) (own_c5 l Z a0 n0 hw [] a349 a22 e.toInt8.toInt32 t (own_r 18 v.toInt.toNat) v 8 _ hv0 ht (own_r_ge 18 _) (own_r_le 18 _) (by decide) hfb (own_pt_at t _ v _)) (by decide) (by decide) (by decide) own_pd3 rfl rfl rfl (Nat.le_of_eq rfl) (by decide) (by decide) rfl ?_
  rintro _ _ ⟨rfl, hE⟩
  rw [hE]
  show G 2 42 [(a22, .inl (.long, [.long (1 : Int64), .long (10 : Int64), .long (100 : Int64), .long (1000 : Int64), .long (10000 : Int64), .long (100000 : Int64), .long (1000000 : Int64), .long (10000000 : Int64), .long (100000000 : Int64), .long (1000000000 : Int64), .long (10000000000 : Int64), .long (100000000000 : Int64), .long (1000000000000 : Int64), .long (10000000000000 : Int64), .long (100000000000000 : Int64), .long (1000000000000000 : Int64), .long (10000000000000000 : Int64), .long (100000000000000000 : Int64), .long (1000000000000000000 : Int64)])), (a349, .inl (.byte, (own_arr (own_pt t (own_r 18 v.toInt.toNat) v fun _ => nar .byte e.toInt8.toInt32))))] 702 [.val (.long a), .second, .val (.int b), .val (.int c), .val (.int e), .val (.long v), .second, .val (.int (Int32.ofNat t)), .val (.int e.toInt8.toInt32), .val (.ref a22), .val (.int (Int32.ofNat (own_r 18 v.toInt.toNat))), .val (.ref a349), .val (.int (Int32.ofNat (t + (own_r 18 v.toInt.toNat)))), .val (.int (1 : Int32))] [.int (1 : Int32), .int (1 : Int32)]
  refine C.iand (q := 703) at_702 rfl ?_
  show G 2 42 [(a22, .inl (.long, [.long (1 : Int64), .long (10 : Int64), .long (100 : Int64), .long (1000 : Int64), .long (10000 : Int64), .long (100000 : Int64), .long (1000000 : Int64), .long (10000000 : Int64), .long (100000000 : Int64), .long (1000000000 : Int64), .long (10000000000 : Int64), .long (100000000000 : Int64), .long (1000000000000 : Int64), .long (10000000000000 : Int64), .long (100000000000000 : Int64), .long (1000000000000000 : Int64), .long (10000000000000000 : Int64), .long (100000000000000000 : Int64), .long (1000000000000000000 : Int64)])), (a349, .inl (.byte, (own_arr (own_pt t (own_r 18 v.toInt.toNat) v fun _ => nar .byte e.toInt8.toInt32))))] 703 [.val (.long a), .second, .val (.int b), .val (.int c), .val (.int e), .val (.long v), .second, .val (.int (Int32.ofNat t)), .val (.int e.toInt8.toInt32), .val (.ref a22), .val (.int (Int32.ofNat (own_r 18 v.toInt.toNat))), .val (.ref a349), .val (.int (Int32.ofNat (t + (own_r 18 v.toInt.toNat)))), .val (.int (1 : Int32))] [.int (1 : Int32)]
  refine C.istore (q := 705) (ls' := [.val (.long a), .second, .val (.int b), .val (.int c), .val (.int e), .val (.long v), .second, .val (.int (Int32.ofNat t)), .val (.int e.toInt8.toInt32), .val (.ref a22), .val (.int (Int32.ofNat (own_r 18 v.toInt.toNat))), .val (.ref a349), .val (.int (Int32.ofNat (t + (own_r 18 v.toInt.toNat)))), .val (.int (1 : Int32))]) at_703 rfl rfl ?_
  refine C.iload (q := 707) at_705 rfl rfl ?_
  refine C.aload (q := 709) at_707 rfl rfl rfl ?_
  refine C.iload (q := 711) at_709 rfl rfl ?_
  refine C.iload (q := 713) at_711 rfl rfl ?_
  refine C.iload (q := 715) at_713 rfl rfl ?_
  refine C.lload (q := 717) at_715 rfl rfl ?_
  refine C.aload (q := 719) at_717 rfl rfl rfl ?_
  refine C.bipush (q := 721) (z := (9 : Int32)) at_719 rfl rfl ?_
  refine C.callS (q := 724) 1 [.ref a349, .int e.toInt8.toInt32, .int (Int32.ofNat t), .int (Int32.ofNat (own_r 18 v.toInt.toNat)), .long v, .ref a22, .int (9 : Int32)] [.int (1 : Int32)] at_721 (hw _ (List.mem_of_getElem? (i := 33) rfl)) (hw _ (List.mem_of_getElem? (i := 34) rfl)) (hw _ (List.mem_of_getElem? (i := 21) rfl)) (hw _ (List.mem_of_getElem? (i := 35) rfl)) (own_c5 l Z a0 n0 hw [] a349 a22 e.toInt8.toInt32 t (own_r 18 v.toInt.toNat) v 9 _ hv0 ht (own_r_ge 18 _) (own_r_le 18 _) (by decide) hfb (own_pt_at t _ v _)) (by decide) (by decide) (by decide) own_pd3 rfl rfl rfl (Nat.le_of_eq rfl) (by decide) (by decide) rfl ?_
  rintro _ _ ⟨rfl, hE⟩
  rw [hE]
  show G 2 42 [(a22, .inl (.long, [.long (1 : Int64), .long (10 : Int64), .long (100 : Int64), .long (1000 : Int64), .long (10000 : Int64), .long (100000 : Int64), .long (1000000 : Int64), .long (10000000 : Int64), .long (100000000 : Int64), .long (1000000000 : Int64), .long (10000000000 : Int64), .long (100000000000 : Int64), .long (1000000000000 : Int64), .long (10000000000000 : Int64), .long (100000000000000 : Int64), .long (1000000000000000 : Int64), .long (10000000000000000 : Int64), .long (100000000000000000 : Int64), .long (1000000000000000000 : Int64)])), (a349, .inl (.byte, (own_arr (own_pt t (own_r 18 v.toInt.toNat) v fun _ => nar .byte e.toInt8.toInt32))))] 724 [.val (.long a), .second, .val (.int b), .val (.int c), .val (.int e), .val (.long v), .second, .val (.int (Int32.ofNat t)), .val (.int e.toInt8.toInt32), .val (.ref a22), .val (.int (Int32.ofNat (own_r 18 v.toInt.toNat))), .val (.ref a349), .val (.int (Int32.ofNat (t + (own_r 18 v.toInt.toNat)))), .val (.int (1 : Int32))] [.int (1 : Int32), .int (1 : Int32)]
  refine C.iand (q := 725) at_724 rfl ?_
  show G 2 42 [(a22, .inl (.long, [.long (1 : Int64), .long (10 : Int64), .long (100 : Int64), .long (1000 : Int64), .long (10000 : Int64), .long (100000 : Int64), .long (1000000 : Int64), .long (10000000 : Int64), .long (100000000 : Int64), .long (1000000000 : Int64), .long (10000000000 : Int64), .long (100000000000 : Int64), .long (1000000000000 : Int64), .long (10000000000000 : Int64), .long (100000000000000 : Int64), .long (1000000000000000 : Int64), .long (10000000000000000 : Int64), .long (100000000000000000 : Int64), .long (1000000000000000000 : Int64)])), (a349, .inl (.byte, (own_arr (own_pt t (own_r 18 v.toInt.toNat) v fun _ => nar .byte e.toInt8.toInt32))))] 725 [.val (.long a), .second, .val (.int b), .val (.int c), .val (.int e), .val (.long v), .second, .val (.int (Int32.ofNat t)), .val (.int e.toInt8.toInt32), .val (.ref a22), .val (.int (Int32.ofNat (own_r 18 v.toInt.toNat))), .val (.ref a349), .val (.int (Int32.ofNat (t + (own_r 18 v.toInt.toNat)))), .val (.int (1 : Int32))] [.int (1 : Int32)]
  refine C.istore (q := 727) (ls' := [.val (.long a), .second, .val (.int b), .val (.int c), .val (.int e), .val (.long v), .second, .val (.int (Int32.ofNat t)), .val (.int e.toInt8.toInt32), .val (.ref a22), .val (.int (Int32.ofNat (own_r 18 v.toInt.toNat))), .val (.ref a349), .val (.int (Int32.ofNat (t + (own_r 18 v.toInt.toNat)))), .val (.int (1 : Int32))]) at_725 rfl rfl ?_
  refine C.iload (q := 729) at_727 rfl rfl ?_
  refine C.aload (q := 731) at_729 rfl rfl rfl ?_
  refine C.iload (q := 733) at_731 rfl rfl ?_
  refine C.iload (q := 735) at_733 rfl rfl ?_
  refine C.iload (q := 737) at_735 rfl rfl ?_
  refine C.lload (q := 739) at_737 rfl rfl ?_
  refine C.aload (q := 741) at_739 rfl rfl rfl ?_
  refine C.bipush (q := 743) (z := (10 : Int32)) at_741 rfl rfl ?_
  refine C.callS (q := 746) 1 [.ref a349, .int e.toInt8.toInt32, .int (Int32.ofNat t), .int (Int32.ofNat (own_r 18 v.toInt.toNat)), .long v, .ref a22, .int (10 : Int32)] [.int (1 : Int32)] at_743 (hw _ (List.mem_of_getElem? (i := 33) rfl)) (hw _ (List.mem_of_getElem? (i := 34) rfl)) (hw _ (List.mem_of_getElem? (i := 21) rfl)) (hw _ (List.mem_of_getElem? (i := 35) rfl)) (own_c5 l Z a0 n0 hw [] a349 a22 e.toInt8.toInt32 t (own_r 18 v.toInt.toNat) v 10 _ hv0 ht (own_r_ge 18 _) (own_r_le 18 _) (by decide) hfb (own_pt_at t _ v _)) (by decide) (by decide) (by decide) own_pd3 rfl rfl rfl (Nat.le_of_eq rfl) (by decide) (by decide) rfl ?_
  rintro _ _ ⟨rfl, hE⟩
  rw [hE]
  show G 2 42 [(a22, .inl (.long, [.long (1 : Int64), .long (10 : Int64), .long (100 : Int64), .long (1000 : Int64), .long (10000 : Int64), .long (100000 : Int64), .long (1000000 : Int64), .long (10000000 : Int64), .long (100000000 : Int64), .long (1000000000 : Int64), .long (10000000000 : Int64), .long (100000000000 : Int64), .long (1000000000000 : Int64), .long (10000000000000 : Int64), .long (100000000000000 : Int64), .long (1000000000000000 : Int64), .long (10000000000000000 : Int64), .long (100000000000000000 : Int64), .long (1000000000000000000 : Int64)])), (a349, .inl (.byte, (own_arr (own_pt t (own_r 18 v.toInt.toNat) v fun _ => nar .byte e.toInt8.toInt32))))] 746 [.val (.long a), .second, .val (.int b), .val (.int c), .val (.int e), .val (.long v), .second, .val (.int (Int32.ofNat t)), .val (.int e.toInt8.toInt32), .val (.ref a22), .val (.int (Int32.ofNat (own_r 18 v.toInt.toNat))), .val (.ref a349), .val (.int (Int32.ofNat (t + (own_r 18 v.toInt.toNat)))), .val (.int (1 : Int32))] [.int (1 : Int32), .int (1 : Int32)]
  refine C.iand (q := 747) at_746 rfl ?_
  show G 2 42 [(a22, .inl (.long, [.long (1 : Int64), .long (10 : Int64), .long (100 : Int64), .long (1000 : Int64), .long (10000 : Int64), .long (100000 : Int64), .long (1000000 : Int64), .long (10000000 : Int64), .long (100000000 : Int64), .long (1000000000 : Int64), .long (10000000000 : Int64), .long (100000000000 : Int64), .long (1000000000000 : Int64), .long (10000000000000 : Int64), .long (100000000000000 : Int64), .long (1000000000000000 : Int64), .long (10000000000000000 : Int64), .long (100000000000000000 : Int64), .long (1000000000000000000 : Int64)])), (a349, .inl (.byte, (own_arr (own_pt t (own_r 18 v.toInt.toNat) v fun _ => nar .byte e.toInt8.toInt32))))] 747 [.val (.long a), .second, .val (.int b), .val (.int c), .val (.int e), .val (.long v), .second, .val (.int (Int32.ofNat t)), .val (.int e.toInt8.toInt32), .val (.ref a22), .val (.int (Int32.ofNat (own_r 18 v.toInt.toNat))), .val (.ref a349), .val (.int (Int32.ofNat (t + (own_r 18 v.toInt.toNat)))), .val (.int (1 : Int32))] [.int (1 : Int32)]
  refine C.istore (q := 749) (ls' := [.val (.long a), .second, .val (.int b), .val (.int c), .val (.int e), .val (.long v), .second, .val (.int (Int32.ofNat t)), .val (.int e.toInt8.toInt32), .val (.ref a22), .val (.int (Int32.ofNat (own_r 18 v.toInt.toNat))), .val (.ref a349), .val (.int (Int32.ofNat (t + (own_r 18 v.toInt.toNat)))), .val (.int (1 : Int32))]) at_747 rfl rfl ?_
  refine C.iload (q := 751) at_749 rfl rfl ?_
  refine C.aload (q := 753) at_751 rfl rfl rfl ?_
  refine C.iload (q := 755) at_753 rfl rfl ?_
  refine C.iload (q := 757) at_755 rfl rfl ?_
  refine C.iload (q := 759) at_757 rfl rfl ?_
  refine C.lload (q := 761) at_759 rfl rfl ?_
  refine C.aload (q := 763) at_761 rfl rfl rfl ?_
  refine C.bipush (q := 765) (z := (11 : Int32)) at_763 rfl rfl ?_
  refine C.callS (q := 768) 1 [.ref a349, .int e.toInt8.toInt32, .int (Int32.ofNat t), .int (Int32.ofNat (own_r 18 v.toInt.toNat)), .long v, .ref a22, .int (11 : Int32)] [.int (1 : Int32)] at_765 (hw _ (List.mem_of_getElem? (i := 33) rfl)) (hw _ (List.mem_of_getElem? (i := 34) rfl)) (hw _ (List.mem_of_getElem? (i := 21) rfl)) (hw _ (List.mem_of_getElem? (i := 35) rfl)) (own_c5 l Z a0 n0 hw [] a349 a22 e.toInt8.toInt32 t (own_r 18 v.toInt.toNat) v 11 _ hv0 ht (own_r_ge 18 _) (own_r_le 18 _) (by decide) hfb (own_pt_at t _ v _)) (by decide) (by decide) (by decide) own_pd3 rfl rfl rfl (Nat.le_of_eq rfl) (by decide) (by decide) rfl ?_
  rintro _ _ ⟨rfl, hE⟩
  rw [hE]
  show G 2 42 [(a22, .inl (.long, [.long (1 : Int64), .long (10 : Int64), .long (100 : Int64), .long (1000 : Int64), .long (10000 : Int64), .long (100000 : Int64), .long (1000000 : Int64), .long (10000000 : Int64), .long (100000000 : Int64), .long (1000000000 : Int64), .long (10000000000 : Int64), .long (100000000000 : Int64), .long (1000000000000 : Int64), .long (10000000000000 : Int64), .long (100000000000000 : Int64), .long (1000000000000000 : Int64), .long (10000000000000000 : Int64), .long (100000000000000000 : Int64), .long (1000000000000000000 : Int64)])), (a349, .inl (.byte, (own_arr (own_pt t (own_r 18 v.toInt.toNat) v fun _ => nar .byte e.toInt8.toInt32))))] 768 [.val (.long a), .second, .val (.int b), .val (.int c), .val (.int e), .val (.long v), .second, .val (.int (Int32.ofNat t)), .val (.int e.toInt8.toInt32), .val (.ref a22), .val (.int (Int32.ofNat (own_r 18 v.toInt.toNat))), .val (.ref a349), .val (.int (Int32.ofNat (t + (own_r 18 v.toInt.toNat)))), .val (.int (1 : Int32))] [.int (1 : Int32), .int (1 : Int32)]
  refine C.iand (q := 769) at_768 rfl ?_
  show G 2 42 [(a22, .inl (.long, [.long (1 : Int64), .long (10 : Int64), .long (100 : Int64), .long (1000 : Int64), .long (10000 : Int64), .long (100000 : Int64), .long (1000000 : Int64), .long (10000000 : Int64), .long (100000000 : Int64), .long (1000000000 : Int64), .long (10000000000 : Int64), .long (100000000000 : Int64), .long (1000000000000 : Int64), .long (10000000000000 : Int64), .long (100000000000000 : Int64), .long (1000000000000000 : Int64), .long (10000000000000000 : Int64), .long (100000000000000000 : Int64), .long (1000000000000000000 : Int64)])), (a349, .inl (.byte, (own_arr (own_pt t (own_r 18 v.toInt.toNat) v fun _ => nar .byte e.toInt8.toInt32))))] 769 [.val (.long a), .second, .val (.int b), .val (.int c), .val (.int e), .val (.long v), .second, .val (.int (Int32.ofNat t)), .val (.int e.toInt8.toInt32), .val (.ref a22), .val (.int (Int32.ofNat (own_r 18 v.toInt.toNat))), .val (.ref a349), .val (.int (Int32.ofNat (t + (own_r 18 v.toInt.toNat)))), .val (.int (1 : Int32))] [.int (1 : Int32)]
  refine C.istore (q := 771) (ls' := [.val (.long a), .second, .val (.int b), .val (.int c), .val (.int e), .val (.long v), .second, .val (.int (Int32.ofNat t)), .val (.int e.toInt8.toInt32), .val (.ref a22), .val (.int (Int32.ofNat (own_r 18 v.toInt.toNat))), .val (.ref a349), .val (.int (Int32.ofNat (t + (own_r 18 v.toInt.toNat)))), .val (.int (1 : Int32))]) at_769 rfl rfl ?_
  refine C.iload (q := 773) at_771 rfl rfl ?_
  refine C.aload (q := 775) at_773 rfl rfl rfl ?_
  refine C.iload (q := 777) at_775 rfl rfl ?_
  refine C.iload (q := 779) at_777 rfl rfl ?_
  refine C.iload (q := 781) at_779 rfl rfl ?_
  refine C.lload (q := 783) at_781 rfl rfl ?_
  refine C.aload (q := 785) at_783 rfl rfl rfl ?_
  refine C.bipush (q := 787) (z := (12 : Int32)) at_785 rfl rfl ?_
  refine C.callS (q := 790) 1 [.ref a349, .int e.toInt8.toInt32, .int (Int32.ofNat t), .int (Int32.ofNat (own_r 18 v.toInt.toNat)), .long v, .ref a22, .int (12 : Int32)] [.int (1 : Int32)] at_787 (hw _ (List.mem_of_getElem? (i := 33) rfl)) (hw _ (List.mem_of_getElem? (i := 34) rfl)) (hw _ (List.mem_of_getElem? (i := 21) rfl)) (hw _ (List.mem_of_getElem? (i := 35) rfl)) (own_c5 l Z a0 n0 hw [] a349 a22 e.toInt8.toInt32 t (own_r 18 v.toInt.toNat) v 12 _ hv0 ht (own_r_ge 18 _) (own_r_le 18 _) (by decide) hfb (own_pt_at t _ v _)) (by decide) (by decide) (by decide) own_pd3 rfl rfl rfl (Nat.le_of_eq rfl) (by decide) (by decide) rfl ?_
  rintro _ _ ⟨rfl, hE⟩
  rw [hE]
  show G 2 42 [(a22, .inl (.long, [.long (1 : Int64), .long (10 : Int64), .long (100 : Int64), .long (1000 : Int64), .long (10000 : Int64), .long (100000 : Int64), .long (1000000 : Int64), .long (10000000 : Int64), .long (100000000 : Int64), .long (1000000000 : Int64), .long (10000000000 : Int64), .long (100000000000 : Int64), .long (1000000000000 : Int64), .long (10000000000000 : Int64), .long (100000000000000 : Int64), .long (1000000000000000 : Int64), .long (10000000000000000 : Int64), .long (100000000000000000 : Int64), .long (1000000000000000000 : Int64)])), (a349, .inl (.byte, (own_arr (own_pt t (own_r 18 v.toInt.toNat) v fun _ => nar .byte e.toInt8.toInt32))))] 790 [.val (.long a), .second, .val (.int b), .val (.int c), .val (.int e), .val (.long v), .second, .val (.int (Int32.ofNat t)), .val (.int e.toInt8.toInt32), .val (.ref a22), .val (.int (Int32.ofNat (own_r 18 v.toInt.toNat))), .val (.ref a349), .val (.int (Int32.ofNat (t + (own_r 18 v.toInt.toNat)))), .val (.int (1 : Int32))] [.int (1 : Int32), .int (1 : Int32)]
  refine C.iand (q := 791) at_790 rfl ?_
  show G 2 42 [(a22, .inl (.long, [.long (1 : Int64), .long (10 : Int64), .long (100 : Int64), .long (1000 : Int64), .long (10000 : Int64), .long (100000 : Int64), .long (1000000 : Int64), .long (10000000 : Int64), .long (100000000 : Int64), .long (1000000000 : Int64), .long (10000000000 : Int64), .long (100000000000 : Int64), .long (1000000000000 : Int64), .long (10000000000000 : Int64), .long (100000000000000 : Int64), .long (1000000000000000 : Int64), .long (10000000000000000 : Int64), .long (100000000000000000 : Int64), .long (1000000000000000000 : Int64)])), (a349, .inl (.byte, (own_arr (own_pt t (own_r 18 v.toInt.toNat) v fun _ => nar .byte e.toInt8.toInt32))))] 791 [.val (.long a), .second, .val (.int b), .val (.int c), .val (.int e), .val (.long v), .second, .val (.int (Int32.ofNat t)), .val (.int e.toInt8.toInt32), .val (.ref a22), .val (.int (Int32.ofNat (own_r 18 v.toInt.toNat))), .val (.ref a349), .val (.int (Int32.ofNat (t + (own_r 18 v.toInt.toNat)))), .val (.int (1 : Int32))] [.int (1 : Int32)]
  refine C.istore (q := 793) (ls' := [.val (.long a), .second, .val (.int b), .val (.int c), .val (.int e), .val (.long v), .second, .val (.int (Int32.ofNat t)), .val (.int e.toInt8.toInt32), .val (.ref a22), .val (.int (Int32.ofNat (own_r 18 v.toInt.toNat))), .val (.ref a349), .val (.int (Int32.ofNat (t + (own_r 18 v.toInt.toNat)))), .val (.int (1 : Int32))]) at_791 rfl rfl ?_
  refine C.iload (q := 795) at_793 rfl rfl ?_
  refine C.aload (q := 797) at_795 rfl rfl rfl ?_
  refine C.iload (q := 799) at_797 rfl rfl ?_
  refine C.iload (q := 801) at_799 rfl rfl ?_
  refine C.iload (q := 803) at_801 rfl rfl ?_
  refine C.lload (q := 805) at_803 rfl rfl ?_
  refine C.aload (q := 807) at_805 rfl rfl rfl ?_
  refine C.bipush (q := 809) (z := (13 : Int32)) at_807 rfl rfl ?_
  refine C.callS (q := 812) 1 [.ref a349, .int e.toInt8.toInt32, .int (Int32.ofNat t), .int (Int32.ofNat (own_r 18 v.toInt.toNat)), .long v, .ref a22, .int (13 : Int32)] [.int (1 : Int32)] at_809 (hw _ (List.mem_of_getElem? (i := 33) rfl)) (hw _ (List.mem_of_getElem? (i := 34) rfl)) (hw _ (List.mem_of_getElem? (i := 21) rfl)) (hw _ (List.mem_of_getElem? (i := 35) rfl)) (own_c5 l Z a0 n0 hw [] a349 a22 e.toInt8.toInt32 t (own_r 18 v.toInt.toNat) v 13 _ hv0 ht (own_r_ge 18 _) (own_r_le 18 _) (by decide) hfb (own_pt_at t _ v _)) (by decide) (by decide) (by decide) own_pd3 rfl rfl rfl (Nat.le_of_eq rfl) (by decide) (by decide) rfl ?_
  rintro _ _ ⟨rfl, hE⟩
  rw [hE]
  show G 2 42 [(a22, .inl (.long, [.long (1 : Int64), .long (10 : Int64), .long (100 : Int64), .long (1000 : Int64), .long (10000 : Int64), .long (100000 : Int64), .long (1000000 : Int64), .long (10000000 : Int64), .long (100000000 : Int64), .long (1000000000 : Int64), .long (10000000000 : Int64), .long (100000000000 : Int64), .long (1000000000000 : Int64), .long (10000000000000 : Int64), .long (100000000000000 : Int64), .long (1000000000000000 : Int64), .long (10000000000000000 : Int64), .long (100000000000000000 : Int64), .long (1000000000000000000 : Int64)])), (a349, .inl (.byte, (own_arr (own_pt t (own_r 18 v.toInt.toNat) v fun _ => nar .byte e.toInt8.toInt32))))] 812 [.val (.long a), .second, .val (.int b), .val (.int c), .val (.int e), .val (.long v), .second, .val (.int (Int32.ofNat t)), .val (.int e.toInt8.toInt32), .val (.ref a22), .val (.int (Int32.ofNat (own_r 18 v.toInt.toNat))), .val (.ref a349), .val (.int (Int32.ofNat (t + (own_r 18 v.toInt.toNat)))), .val (.int (1 : Int32))] [.int (1 : Int32), .int (1 : Int32)]
  refine C.iand (q := 813) at_812 rfl ?_
  show G 2 42 [(a22, .inl (.long, [.long (1 : Int64), .long (10 : Int64), .long (100 : Int64), .long (1000 : Int64), .long (10000 : Int64), .long (100000 : Int64), .long (1000000 : Int64), .long (10000000 : Int64), .long (100000000 : Int64), .long (1000000000 : Int64), .long (10000000000 : Int64), .long (100000000000 : Int64), .long (1000000000000 : Int64), .long (10000000000000 : Int64), .long (100000000000000 : Int64), .long (1000000000000000 : Int64), .long (10000000000000000 : Int64), .long (100000000000000000 : Int64), .long (1000000000000000000 : Int64)])), (a349, .inl (.byte, (own_arr (own_pt t (own_r 18 v.toInt.toNat) v fun _ => nar .byte e.toInt8.toInt32))))] 813 [.val (.long a), .second, .val (.int b), .val (.int c), .val (.int e), .val (.long v), .second, .val (.int (Int32.ofNat t)), .val (.int e.toInt8.toInt32), .val (.ref a22), .val (.int (Int32.ofNat (own_r 18 v.toInt.toNat))), .val (.ref a349), .val (.int (Int32.ofNat (t + (own_r 18 v.toInt.toNat)))), .val (.int (1 : Int32))] [.int (1 : Int32)]
  refine C.istore (q := 815) (ls' := [.val (.long a), .second, .val (.int b), .val (.int c), .val (.int e), .val (.long v), .second, .val (.int (Int32.ofNat t)), .val (.int e.toInt8.toInt32), .val (.ref a22), .val (.int (Int32.ofNat (own_r 18 v.toInt.toNat))), .val (.ref a349), .val (.int (Int32.ofNat (t + (own_r 18 v.toInt.toNat)))), .val (.int (1 : Int32))]) at_813 rfl rfl ?_
  refine C.iload (q := 817) at_815 rfl rfl ?_
  refine C.aload (q := 819) at_817 rfl rfl rfl ?_
  refine C.iload (q := 821) at_819 rfl rfl ?_
  refine C.iload (q := 823) at_821 rfl rfl ?_
  refine C.iload (q := 825) at_823 rfl rfl ?_
  refine C.lload (q := 827) at_825 rfl rfl ?_
  refine C.aload (q := 829) at_827 rfl rfl rfl ?_
  refine C.bipush (q := 831) (z := (14 : Int32)) at_829 rfl rfl ?_
  refine C.callS (q := 834) 1 [.ref a349, .int e.toInt8.toInt32, .int (Int32.ofNat t), .int (Int32.ofNat (own_r 18 v.toInt.toNat)), .long v, .ref a22, .int (14 : Int32)] [.int (1 : Int32)] at_831 (hw _ (List.mem_of_getElem? (i := 33) rfl)) (hw _ (List.mem_of_getElem? (i := 34) rfl)) (hw _ (List.mem_of_getElem? (i := 21) rfl)) (hw _ (List.mem_of_getElem? (i := 35) rfl)) (own_c5 l Z a0 n0 hw [] a349 a22 e.toInt8.toInt32 t (own_r 18 v.toInt.toNat) v 14 _ hv0 ht (own_r_ge 18 _) (own_r_le 18 _) (by decide) hfb (own_pt_at t _ v _)) (by decide) (by decide) (by decide) own_pd3 rfl rfl rfl (Nat.le_of_eq rfl) (by decide) (by decide) rfl ?_
  rintro _ _ ⟨rfl, hE⟩
  rw [hE]
  show G 2 42 [(a22, .inl (.long, [.long (1 : Int64), .long (10 : Int64), .long (100 : Int64), .long (1000 : Int64), .long (10000 : Int64), .long (100000 : Int64), .long (1000000 : Int64), .long (10000000 : Int64), .long (100000000 : Int64), .long (1000000000 : Int64), .long (10000000000 : Int64), .long (100000000000 : Int64), .long (1000000000000 : Int64), .long (10000000000000 : Int64), .long (100000000000000 : Int64), .long (1000000000000000 : Int64), .long (10000000000000000 : Int64), .long (100000000000000000 : Int64), .long (1000000000000000000 : Int64)])), (a349, .inl (.byte, (own_arr (own_pt t (own_r 18 v.toInt.toNat) v fun _ => nar .byte e.toInt8.toInt32))))] 834 [.val (.long a), .second, .val (.int b), .val (.int c), .val (.int e), .val (.long v), .second, .val (.int (Int32.ofNat t)), .val (.int e.toInt8.toInt32), .val (.ref a22), .val (.int (Int32.ofNat (own_r 18 v.toInt.toNat))), .val (.ref a349), .val (.int (Int32.ofNat (t + (own_r 18 v.toInt.toNat)))), .val (.int (1 : Int32))] [.int (1 : Int32), .int (1 : Int32)]
  refine C.iand (q := 835) at_834 rfl ?_
  show G 2 42 [(a22, .inl (.long, [.long (1 : Int64), .long (10 : Int64), .long (100 : Int64), .long (1000 : Int64), .long (10000 : Int64), .long (100000 : Int64), .long (1000000 : Int64), .long (10000000 : Int64), .long (100000000 : Int64), .long (1000000000 : Int64), .long (10000000000 : Int64), .long (100000000000 : Int64), .long (1000000000000 : Int64), .long (10000000000000 : Int64), .long (100000000000000 : Int64), .long (1000000000000000 : Int64), .long (10000000000000000 : Int64), .long (100000000000000000 : Int64), .long (1000000000000000000 : Int64)])), (a349, .inl (.byte, (own_arr (own_pt t (own_r 18 v.toInt.toNat) v fun _ => nar .byte e.toInt8.toInt32))))] 835 [.val (.long a), .second, .val (.int b), .val (.int c), .val (.int e), .val (.long v), .second, .val (.int (Int32.ofNat t)), .val (.int e.toInt8.toInt32), .val (.ref a22), .val (.int (Int32.ofNat (own_r 18 v.toInt.toNat))), .val (.ref a349), .val (.int (Int32.ofNat (t + (own_r 18 v.toInt.toNat)))), .val (.int (1 : Int32))] [.int (1 : Int32)]
  refine C.istore (q := 837) (ls' := [.val (.long a), .second, .val (.int b), .val (.int c), .val (.int e), .val (.long v), .second, .val (.int (Int32.ofNat t)), .val (.int e.toInt8.toInt32), .val (.ref a22), .val (.int (Int32.ofNat (own_r 18 v.toInt.toNat))), .val (.ref a349), .val (.int (Int32.ofNat (t + (own_r 18 v.toInt.toNat)))), .val (.int (1 : Int32))]) at_835 rfl rfl ?_
  refine C.iload (q := 839) at_837 rfl rfl ?_
  refine C.aload (q := 841) at_839 rfl rfl rfl ?_
  refine C.iload (q := 843) at_841 rfl rfl ?_
  refine C.iload (q := 845) at_843 rfl rfl ?_
  refine C.iload (q := 847) at_845 rfl rfl ?_
  refine C.lload (q := 849) at_847 rfl rfl ?_
  refine C.aload (q := 851) at_849 rfl rfl rfl ?_
  refine C.bipush (q := 853) (z := (15 : Int32)) at_851 rfl rfl ?_
  refine C.callS (q := 856) 1 [.ref a349, .int e.toInt8.toInt32, .int (Int32.ofNat t), .int (Int32.ofNat (own_r 18 v.toInt.toNat)), .long v, .ref a22, .int (15 : Int32)] [.int (1 : Int32)] at_853 (hw _ (List.mem_of_getElem? (i := 33) rfl)) (hw _ (List.mem_of_getElem? (i := 34) rfl)) (hw _ (List.mem_of_getElem? (i := 21) rfl)) (hw _ (List.mem_of_getElem? (i := 35) rfl)) (own_c5 l Z a0 n0 hw [] a349 a22 e.toInt8.toInt32 t (own_r 18 v.toInt.toNat) v 15 _ hv0 ht (own_r_ge 18 _) (own_r_le 18 _) (by decide) hfb (own_pt_at t _ v _)) (by decide) (by decide) (by decide) own_pd3 rfl rfl rfl (Nat.le_of_eq rfl) (by decide) (by decide) rfl ?_
  rintro _ _ ⟨rfl, hE⟩
  rw [hE]
  show G 2 42 [(a22, .inl (.long, [.long (1 : Int64), .long (10 : Int64), .long (100 : Int64), .long (1000 : Int64), .long (10000 : Int64), .long (100000 : Int64), .long (1000000 : Int64), .long (10000000 : Int64), .long (100000000 : Int64), .long (1000000000 : Int64), .long (10000000000 : Int64), .long (100000000000 : Int64), .long (1000000000000 : Int64), .long (10000000000000 : Int64), .long (100000000000000 : Int64), .long (1000000000000000 : Int64), .long (10000000000000000 : Int64), .long (100000000000000000 : Int64), .long (1000000000000000000 : Int64)])), (a349, .inl (.byte, (own_arr (own_pt t (own_r 18 v.toInt.toNat) v fun _ => nar .byte e.toInt8.toInt32))))] 856 [.val (.long a), .second, .val (.int b), .val (.int c), .val (.int e), .val (.long v), .second, .val (.int (Int32.ofNat t)), .val (.int e.toInt8.toInt32), .val (.ref a22), .val (.int (Int32.ofNat (own_r 18 v.toInt.toNat))), .val (.ref a349), .val (.int (Int32.ofNat (t + (own_r 18 v.toInt.toNat)))), .val (.int (1 : Int32))] [.int (1 : Int32), .int (1 : Int32)]
  refine C.iand (q := 857) at_856 rfl ?_
  show G 2 42 [(a22, .inl (.long, [.long (1 : Int64), .long (10 : Int64), .long (100 : Int64), .long (1000 : Int64), .long (10000 : Int64), .long (100000 : Int64), .long (1000000 : Int64), .long (10000000 : Int64), .long (100000000 : Int64), .long (1000000000 : Int64), .long (10000000000 : Int64), .long (100000000000 : Int64), .long (1000000000000 : Int64), .long (10000000000000 : Int64), .long (100000000000000 : Int64), .long (1000000000000000 : Int64), .long (10000000000000000 : Int64), .long (100000000000000000 : Int64), .long (1000000000000000000 : Int64)])), (a349, .inl (.byte, (own_arr (own_pt t (own_r 18 v.toInt.toNat) v fun _ => nar .byte e.toInt8.toInt32))))] 857 [.val (.long a), .second, .val (.int b), .val (.int c), .val (.int e), .val (.long v), .second, .val (.int (Int32.ofNat t)), .val (.int e.toInt8.toInt32), .val (.ref a22), .val (.int (Int32.ofNat (own_r 18 v.toInt.toNat))), .val (.ref a349), .val (.int (Int32.ofNat (t + (own_r 18 v.toInt.toNat)))), .val (.int (1 : Int32))] [.int (1 : Int32)]
  refine C.istore (q := 859) (ls' := [.val (.long a), .second, .val (.int b), .val (.int c), .val (.int e), .val (.long v), .second, .val (.int (Int32.ofNat t)), .val (.int e.toInt8.toInt32), .val (.ref a22), .val (.int (Int32.ofNat (own_r 18 v.toInt.toNat))), .val (.ref a349), .val (.int (Int32.ofNat (t + (own_r 18 v.toInt.toNat)))), .val (.int (1 : Int32))]) at_857 rfl rfl ?_
  refine C.iload (q := 861) at_859 rfl rfl ?_
  refine C.aload (q := 863) at_861 rfl rfl rfl ?_
  refine C.iload (q := 865) at_863 rfl rfl ?_
  refine C.iload (q := 867) at_865 rfl rfl ?_
  refine C.iload (q := 869) at_867 rfl rfl ?_
  refine C.lload (q := 871) at_869 rfl rfl ?_
  refine C.aload (q := 873) at_871 rfl rfl rfl ?_
  refine C.bipush (q := 875) (z := (16 : Int32)) at_873 rfl rfl ?_
  refine C.callS (q := 878) 1 [.ref a349, .int e.toInt8.toInt32, .int (Int32.ofNat t), .int (Int32.ofNat (own_r 18 v.toInt.toNat)), .long v, .ref a22, .int (16 : Int32)] [.int (1 : Int32)] at_875 (hw _ (List.mem_of_getElem? (i := 33) rfl)) (hw _ (List.mem_of_getElem? (i := 34) rfl)) (hw _ (List.mem_of_getElem? (i := 21) rfl)) (hw _ (List.mem_of_getElem? (i := 35) rfl)) (own_c5 l Z a0 n0 hw [] a349 a22 e.toInt8.toInt32 t (own_r 18 v.toInt.toNat) v 16 _ hv0 ht (own_r_ge 18 _) (own_r_le 18 _) (by decide) hfb (own_pt_at t _ v _)) (by decide) (by decide) (by decide) own_pd3 rfl rfl rfl (Nat.le_of_eq rfl) (by decide) (by decide) rfl ?_
  rintro _ _ ⟨rfl, hE⟩
  rw [hE]
  show G 2 42 [(a22, .inl (.long, [.long (1 : Int64), .long (10 : Int64), .long (100 : Int64), .long (1000 : Int64), .long (10000 : Int64), .long (100000 : Int64), .long (1000000 : Int64), .long (10000000 : Int64), .long (100000000 : Int64), .long (1000000000 : Int64), .long (10000000000 : Int64), .long (100000000000 : Int64), .long (1000000000000 : Int64), .long (10000000000000 : Int64), .long (100000000000000 : Int64), .long (1000000000000000 : Int64), .long (10000000000000000 : Int64), .long (100000000000000000 : Int64), .long (1000000000000000000 : Int64)])), (a349, .inl (.byte, (own_arr (own_pt t (own_r 18 v.toInt.toNat) v fun _ => nar .byte e.toInt8.toInt32))))] 878 [.val (.long a), .second, .val (.int b), .val (.int c), .val (.int e), .val (.long v), .second, .val (.int (Int32.ofNat t)), .val (.int e.toInt8.toInt32), .val (.ref a22), .val (.int (Int32.ofNat (own_r 18 v.toInt.toNat))), .val (.ref a349), .val (.int (Int32.ofNat (t + (own_r 18 v.toInt.toNat)))), .val (.int (1 : Int32))] [.int (1 : Int32), .int (1 : Int32)]
  refine C.iand (q := 879) at_878 rfl ?_
  show G 2 42 [(a22, .inl (.long, [.long (1 : Int64), .long (10 : Int64), .long (100 : Int64), .long (1000 : Int64), .long (10000 : Int64), .long (100000 : Int64), .long (1000000 : Int64), .long (10000000 : Int64), .long (100000000 : Int64), .long (1000000000 : Int64), .long (10000000000 : Int64), .long (100000000000 : Int64), .long (1000000000000 : Int64), .long (10000000000000 : Int64), .long (100000000000000 : Int64), .long (1000000000000000 : Int64), .long (10000000000000000 : Int64), .long (100000000000000000 : Int64), .long (1000000000000000000 : Int64)])), (a349, .inl (.byte, (own_arr (own_pt t (own_r 18 v.toInt.toNat) v fun _ => nar .byte e.toInt8.toInt32))))] 879 [.val (.long a), .second, .val (.int b), .val (.int c), .val (.int e), .val (.long v), .second, .val (.int (Int32.ofNat t)), .val (.int e.toInt8.toInt32), .val (.ref a22), .val (.int (Int32.ofNat (own_r 18 v.toInt.toNat))), .val (.ref a349), .val (.int (Int32.ofNat (t + (own_r 18 v.toInt.toNat)))), .val (.int (1 : Int32))] [.int (1 : Int32)]
  refine C.istore (q := 881) (ls' := [.val (.long a), .second, .val (.int b), .val (.int c), .val (.int e), .val (.long v), .second, .val (.int (Int32.ofNat t)), .val (.int e.toInt8.toInt32), .val (.ref a22), .val (.int (Int32.ofNat (own_r 18 v.toInt.toNat))), .val (.ref a349), .val (.int (Int32.ofNat (t + (own_r 18 v.toInt.toNat)))), .val (.int (1 : Int32))]) at_879 rfl rfl ?_
  refine C.iload (q := 883) at_881 rfl rfl ?_
  refine C.aload (q := 885) at_883 rfl rfl rfl ?_
  refine C.iload (q := 887) at_885 rfl rfl ?_
  refine C.iload (q := 889) at_887 rfl rfl ?_
  refine C.iload (q := 891) at_889 rfl rfl ?_
  refine C.lload (q := 893) at_891 rfl rfl ?_
  refine C.aload (q := 895) at_893 rfl rfl rfl ?_
  refine C.bipush (q := 897) (z := (17 : Int32)) at_895 rfl rfl ?_
  refine C.callS (q := 900) 1 [.ref a349, .int e.toInt8.toInt32, .int (Int32.ofNat t), .int (Int32.ofNat (own_r 18 v.toInt.toNat)), .long v, .ref a22, .int (17 : Int32)] [.int (1 : Int32)] at_897 (hw _ (List.mem_of_getElem? (i := 33) rfl)) (hw _ (List.mem_of_getElem? (i := 34) rfl)) (hw _ (List.mem_of_getElem? (i := 21) rfl)) (hw _ (List.mem_of_getElem? (i := 35) rfl)) (own_c5 l Z a0 n0 hw [] a349 a22 e.toInt8.toInt32 t (own_r 18 v.toInt.toNat) v 17 _ hv0 ht (own_r_ge 18 _) (own_r_le 18 _) (by decide) hfb (own_pt_at t _ v _)) (by decide) (by decide) (by decide) own_pd3 rfl rfl rfl (Nat.le_of_eq rfl) (by decide) (by decide) rfl ?_
  rintro _ _ ⟨rfl, hE⟩
  rw [hE]
  show G 2 42 [(a22, .inl (.long, [.long (1 : Int64), .long (10 : Int64), .long (100 : Int64), .long (1000 : Int64), .long (10000 : Int64), .long (100000 : Int64), .long (1000000 : Int64), .long (10000000 : Int64), .long (100000000 : Int64), .long (1000000000 : Int64), .long (10000000000 : Int64), .long (100000000000 : Int64), .long (1000000000000 : Int64), .long (10000000000000 : Int64), .long (100000000000000 : Int64), .long (1000000000000000 : Int64), .long (10000000000000000 : Int64), .long (100000000000000000 : Int64), .long (1000000000000000000 : Int64)])), (a349, .inl (.byte, (own_arr (own_pt t (own_r 18 v.toInt.toNat) v fun _ => nar .byte e.toInt8.toInt32))))] 900 [.val (.long a), .second, .val (.int b), .val (.int c), .val (.int e), .val (.long v), .second, .val (.int (Int32.ofNat t)), .val (.int e.toInt8.toInt32), .val (.ref a22), .val (.int (Int32.ofNat (own_r 18 v.toInt.toNat))), .val (.ref a349), .val (.int (Int32.ofNat (t + (own_r 18 v.toInt.toNat)))), .val (.int (1 : Int32))] [.int (1 : Int32), .int (1 : Int32)]
  refine C.iand (q := 901) at_900 rfl ?_
  show G 2 42 [(a22, .inl (.long, [.long (1 : Int64), .long (10 : Int64), .long (100 : Int64), .long (1000 : Int64), .long (10000 : Int64), .long (100000 : Int64), .long (1000000 : Int64), .long (10000000 : Int64), .long (100000000 : Int64), .long (1000000000 : Int64), .long (10000000000 : Int64), .long (100000000000 : Int64), .long (1000000000000 : Int64), .long (10000000000000 : Int64), .long (100000000000000 : Int64), .long (1000000000000000 : Int64), .long (10000000000000000 : Int64), .long (100000000000000000 : Int64), .long (1000000000000000000 : Int64)])), (a349, .inl (.byte, (own_arr (own_pt t (own_r 18 v.toInt.toNat) v fun _ => nar .byte e.toInt8.toInt32))))] 901 [.val (.long a), .second, .val (.int b), .val (.int c), .val (.int e), .val (.long v), .second, .val (.int (Int32.ofNat t)), .val (.int e.toInt8.toInt32), .val (.ref a22), .val (.int (Int32.ofNat (own_r 18 v.toInt.toNat))), .val (.ref a349), .val (.int (Int32.ofNat (t + (own_r 18 v.toInt.toNat)))), .val (.int (1 : Int32))] [.int (1 : Int32)]
  refine C.istore (q := 903) (ls' := [.val (.long a), .second, .val (.int b), .val (.int c), .val (.int e), .val (.long v), .second, .val (.int (Int32.ofNat t)), .val (.int e.toInt8.toInt32), .val (.ref a22), .val (.int (Int32.ofNat (own_r 18 v.toInt.toNat))), .val (.ref a349), .val (.int (Int32.ofNat (t + (own_r 18 v.toInt.toNat)))), .val (.int (1 : Int32))]) at_901 rfl rfl ?_
  refine C.iload (q := 905) at_903 rfl rfl ?_
  refine C.aload (q := 907) at_905 rfl rfl rfl ?_
  refine C.iload (q := 909) at_907 rfl rfl ?_
  refine C.iload (q := 911) at_909 rfl rfl ?_
  refine C.iload (q := 913) at_911 rfl rfl ?_
  refine C.lload (q := 915) at_913 rfl rfl ?_
  refine C.aload (q := 917) at_915 rfl rfl rfl ?_
  refine C.bipush (q := 919) (z := (18 : Int32)) at_917 rfl rfl ?_
  refine C.callS (q := 922) 1 [.ref a349, .int e.toInt8.toInt32, .int (Int32.ofNat t), .int (Int32.ofNat (own_r 18 v.toInt.toNat)), .long v, .ref a22, .int (18 : Int32)] [.int (1 : Int32)] at_919 (hw _ (List.mem_of_getElem? (i := 33) rfl)) (hw _ (List.mem_of_getElem? (i := 34) rfl)) (hw _ (List.mem_of_getElem? (i := 21) rfl)) (hw _ (List.mem_of_getElem? (i := 35) rfl)) (own_c5 l Z a0 n0 hw [] a349 a22 e.toInt8.toInt32 t (own_r 18 v.toInt.toNat) v 18 _ hv0 ht (own_r_ge 18 _) (own_r_le 18 _) (by decide) hfb (own_pt_at t _ v _)) (by decide) (by decide) (by decide) own_pd3 rfl rfl rfl (Nat.le_of_eq rfl) (by decide) (by decide) rfl ?_
  rintro _ _ ⟨rfl, hE⟩
  rw [hE]
  show G 2 42 [(a22, .inl (.long, [.long (1 : Int64), .long (10 : Int64), .long (100 : Int64), .long (1000 : Int64), .long (10000 : Int64), .long (100000 : Int64), .long (1000000 : Int64), .long (10000000 : Int64), .long (100000000 : Int64), .long (1000000000 : Int64), .long (10000000000 : Int64), .long (100000000000 : Int64), .long (1000000000000 : Int64), .long (10000000000000 : Int64), .long (100000000000000 : Int64), .long (1000000000000000 : Int64), .long (10000000000000000 : Int64), .long (100000000000000000 : Int64), .long (1000000000000000000 : Int64)])), (a349, .inl (.byte, (own_arr (own_pt t (own_r 18 v.toInt.toNat) v fun _ => nar .byte e.toInt8.toInt32))))] 922 [.val (.long a), .second, .val (.int b), .val (.int c), .val (.int e), .val (.long v), .second, .val (.int (Int32.ofNat t)), .val (.int e.toInt8.toInt32), .val (.ref a22), .val (.int (Int32.ofNat (own_r 18 v.toInt.toNat))), .val (.ref a349), .val (.int (Int32.ofNat (t + (own_r 18 v.toInt.toNat)))), .val (.int (1 : Int32))] [.int (1 : Int32), .int (1 : Int32)]
  refine C.iand (q := 923) at_922 rfl ?_
  show G 2 42 [(a22, .inl (.long, [.long (1 : Int64), .long (10 : Int64), .long (100 : Int64), .long (1000 : Int64), .long (10000 : Int64), .long (100000 : Int64), .long (1000000 : Int64), .long (10000000 : Int64), .long (100000000 : Int64), .long (1000000000 : Int64), .long (10000000000 : Int64), .long (100000000000 : Int64), .long (1000000000000 : Int64), .long (10000000000000 : Int64), .long (100000000000000 : Int64), .long (1000000000000000 : Int64), .long (10000000000000000 : Int64), .long (100000000000000000 : Int64), .long (1000000000000000000 : Int64)])), (a349, .inl (.byte, (own_arr (own_pt t (own_r 18 v.toInt.toNat) v fun _ => nar .byte e.toInt8.toInt32))))] 923 [.val (.long a), .second, .val (.int b), .val (.int c), .val (.int e), .val (.long v), .second, .val (.int (Int32.ofNat t)), .val (.int e.toInt8.toInt32), .val (.ref a22), .val (.int (Int32.ofNat (own_r 18 v.toInt.toNat))), .val (.ref a349), .val (.int (Int32.ofNat (t + (own_r 18 v.toInt.toNat)))), .val (.int (1 : Int32))] [.int (1 : Int32)]
  refine C.istore (q := 925) (ls' := [.val (.long a), .second, .val (.int b), .val (.int c), .val (.int e), .val (.long v), .second, .val (.int (Int32.ofNat t)), .val (.int e.toInt8.toInt32), .val (.ref a22), .val (.int (Int32.ofNat (own_r 18 v.toInt.toNat))), .val (.ref a349), .val (.int (Int32.ofNat (t + (own_r 18 v.toInt.toNat)))), .val (.int (1 : Int32))]) at_923 rfl rfl ?_
  refine C.iload (q := 927) at_925 rfl rfl ?_
  refine C.aload (q := 929) at_927 rfl rfl rfl ?_
  refine C.iload (q := 931) at_929 rfl rfl ?_
  refine C.iload (q := 933) at_931 rfl rfl ?_
  refine C.iload (q := 935) at_933 rfl rfl ?_
  refine C.lload (q := 937) at_935 rfl rfl ?_
  refine C.aload (q := 939) at_937 rfl rfl rfl ?_
  refine C.bipush (q := 941) (z := (19 : Int32)) at_939 rfl rfl ?_
  refine C.callS (q := 944) 1 [.ref a349, .int e.toInt8.toInt32, .int (Int32.ofNat t), .int (Int32.ofNat (own_r 18 v.toInt.toNat)), .long v, .ref a22, .int (19 : Int32)] [.int (1 : Int32)] at_941 (hw _ (List.mem_of_getElem? (i := 33) rfl)) (hw _ (List.mem_of_getElem? (i := 34) rfl)) (hw _ (List.mem_of_getElem? (i := 21) rfl)) (hw _ (List.mem_of_getElem? (i := 35) rfl)) (own_c5 l Z a0 n0 hw [] a349 a22 e.toInt8.toInt32 t (own_r 18 v.toInt.toNat) v 19 _ hv0 ht (own_r_ge 18 _) (own_r_le 18 _) (by decide) hfb (own_pt_at t _ v _)) (by decide) (by decide) (by decide) own_pd3 rfl rfl rfl (Nat.le_of_eq rfl) (by decide) (by decide) rfl ?_
  rintro _ _ ⟨rfl, hE⟩
  rw [hE]
  show G 2 42 [(a22, .inl (.long, [.long (1 : Int64), .long (10 : Int64), .long (100 : Int64), .long (1000 : Int64), .long (10000 : Int64), .long (100000 : Int64), .long (1000000 : Int64), .long (10000000 : Int64), .long (100000000 : Int64), .long (1000000000 : Int64), .long (10000000000 : Int64), .long (100000000000 : Int64), .long (1000000000000 : Int64), .long (10000000000000 : Int64), .long (100000000000000 : Int64), .long (1000000000000000 : Int64), .long (10000000000000000 : Int64), .long (100000000000000000 : Int64), .long (1000000000000000000 : Int64)])), (a349, .inl (.byte, (own_arr (own_pt t (own_r 18 v.toInt.toNat) v fun _ => nar .byte e.toInt8.toInt32))))] 944 [.val (.long a), .second, .val (.int b), .val (.int c), .val (.int e), .val (.long v), .second, .val (.int (Int32.ofNat t)), .val (.int e.toInt8.toInt32), .val (.ref a22), .val (.int (Int32.ofNat (own_r 18 v.toInt.toNat))), .val (.ref a349), .val (.int (Int32.ofNat (t + (own_r 18 v.toInt.toNat)))), .val (.int (1 : Int32))] [.int (1 : Int32), .int (1 : Int32)]
  refine C.iand (q := 945) at_944 rfl ?_
  show G 2 42 [(a22, .inl (.long, [.long (1 : Int64), .long (10 : Int64), .long (100 : Int64), .long (1000 : Int64), .long (10000 : Int64), .long (100000 : Int64), .long (1000000 : Int64), .long (10000000 : Int64), .long (100000000 : Int64), .long (1000000000 : Int64), .long (10000000000 : Int64), .long (100000000000 : Int64), .long (1000000000000 : Int64), .long (10000000000000 : Int64), .long (100000000000000 : Int64), .long (1000000000000000 : Int64), .long (10000000000000000 : Int64), .long (100000000000000000 : Int64), .long (1000000000000000000 : Int64)])), (a349, .inl (.byte, (own_arr (own_pt t (own_r 18 v.toInt.toNat) v fun _ => nar .byte e.toInt8.toInt32))))] 945 [.val (.long a), .second, .val (.int b), .val (.int c), .val (.int e), .val (.long v), .second, .val (.int (Int32.ofNat t)), .val (.int e.toInt8.toInt32), .val (.ref a22), .val (.int (Int32.ofNat (own_r 18 v.toInt.toNat))), .val (.ref a349), .val (.int (Int32.ofNat (t + (own_r 18 v.toInt.toNat)))), .val (.int (1 : Int32))] [.int (1 : Int32)]
  refine C.istore (q := 947) (ls' := [.val (.long a), .second, .val (.int b), .val (.int c), .val (.int e), .val (.long v), .second, .val (.int (Int32.ofNat t)), .val (.int e.toInt8.toInt32), .val (.ref a22), .val (.int (Int32.ofNat (own_r 18 v.toInt.toNat))), .val (.ref a349), .val (.int (Int32.ofNat (t + (own_r 18 v.toInt.toNat)))), .val (.int (1 : Int32))]) at_945 rfl rfl ?_
  refine C.iload (q := 949) at_947 rfl rfl ?_
  refine C.aload (q := 951) at_949 rfl rfl rfl ?_
  refine C.iload (q := 953) at_951 rfl rfl ?_
  refine C.iload (q := 955) at_953 rfl rfl ?_
  refine C.iload (q := 957) at_955 rfl rfl ?_
  refine C.lload (q := 959) at_957 rfl rfl ?_
  refine C.aload (q := 961) at_959 rfl rfl rfl ?_
  refine C.bipush (q := 963) (z := (20 : Int32)) at_961 rfl rfl ?_
  refine C.callS (q := 966) 1 [.ref a349, .int e.toInt8.toInt32, .int (Int32.ofNat t), .int (Int32.ofNat (own_r 18 v.toInt.toNat)), .long v, .ref a22, .int (20 : Int32)] [.int (1 : Int32)] at_963 (hw _ (List.mem_of_getElem? (i := 33) rfl)) (hw _ (List.mem_of_getElem? (i := 34) rfl)) (hw _ (List.mem_of_getElem? (i := 21) rfl)) (hw _ (List.mem_of_getElem? (i := 35) rfl)) (own_c5 l Z a0 n0 hw [] a349 a22 e.toInt8.toInt32 t (own_r 18 v.toInt.toNat) v 20 _ hv0 ht (own_r_ge 18 _) (own_r_le 18 _) (by decide) hfb (own_pt_at t _ v _)) (by decide) (by decide) (by decide) own_pd3 rfl rfl rfl (Nat.le_of_eq rfl) (by decide) (by decide) rfl ?_
  rintro _ _ ⟨rfl, hE⟩
  rw [hE]
  show G 2 42 [(a22, .inl (.long, [.long (1 : Int64), .long (10 : Int64), .long (100 : Int64), .long (1000 : Int64), .long (10000 : Int64), .long (100000 : Int64), .long (1000000 : Int64), .long (10000000 : Int64), .long (100000000 : Int64), .long (1000000000 : Int64), .long (10000000000 : Int64), .long (100000000000 : Int64), .long (1000000000000 : Int64), .long (10000000000000 : Int64), .long (100000000000000 : Int64), .long (1000000000000000 : Int64), .long (10000000000000000 : Int64), .long (100000000000000000 : Int64), .long (1000000000000000000 : Int64)])), (a349, .inl (.byte, (own_arr (own_pt t (own_r 18 v.toInt.toNat) v fun _ => nar .byte e.toInt8.toInt32))))] 966 [.val (.long a), .second, .val (.int b), .val (.int c), .val (.int e), .val (.long v), .second, .val (.int (Int32.ofNat t)), .val (.int e.toInt8.toInt32), .val (.ref a22), .val (.int (Int32.ofNat (own_r 18 v.toInt.toNat))), .val (.ref a349), .val (.int (Int32.ofNat (t + (own_r 18 v.toInt.toNat)))), .val (.int (1 : Int32))] [.int (1 : Int32), .int (1 : Int32)]
  refine C.iand (q := 967) at_966 rfl ?_
  show G 2 42 [(a22, .inl (.long, [.long (1 : Int64), .long (10 : Int64), .long (100 : Int64), .long (1000 : Int64), .long (10000 : Int64), .long (100000 : Int64), .long (1000000 : Int64), .long (10000000 : Int64), .long (100000000 : Int64), .long (1000000000 : Int64), .long (10000000000 : Int64), .long (100000000000 : Int64), .long (1000000000000 : Int64), .long (10000000000000 : Int64), .long (100000000000000 : Int64), .long (1000000000000000 : Int64), .long (10000000000000000 : Int64), .long (100000000000000000 : Int64), .long (1000000000000000000 : Int64)])), (a349, .inl (.byte, (own_arr (own_pt t (own_r 18 v.toInt.toNat) v fun _ => nar .byte e.toInt8.toInt32))))] 967 [.val (.long a), .second, .val (.int b), .val (.int c), .val (.int e), .val (.long v), .second, .val (.int (Int32.ofNat t)), .val (.int e.toInt8.toInt32), .val (.ref a22), .val (.int (Int32.ofNat (own_r 18 v.toInt.toNat))), .val (.ref a349), .val (.int (Int32.ofNat (t + (own_r 18 v.toInt.toNat)))), .val (.int (1 : Int32))] [.int (1 : Int32)]
  refine C.istore (q := 969) (ls' := [.val (.long a), .second, .val (.int b), .val (.int c), .val (.int e), .val (.long v), .second, .val (.int (Int32.ofNat t)), .val (.int e.toInt8.toInt32), .val (.ref a22), .val (.int (Int32.ofNat (own_r 18 v.toInt.toNat))), .val (.ref a349), .val (.int (Int32.ofNat (t + (own_r 18 v.toInt.toNat)))), .val (.int (1 : Int32))]) at_967 rfl rfl ?_
  refine C.iload (q := 971) at_969 rfl rfl ?_
  refine C.aload (q := 973) at_971 rfl rfl rfl ?_
  refine C.iload (q := 975) at_973 rfl rfl ?_
  refine C.iload (q := 977) at_975 rfl rfl ?_
  refine C.iload (q := 979) at_977 rfl rfl ?_
  refine C.lload (q := 981) at_979 rfl rfl ?_
  refine C.aload (q := 983) at_981 rfl rfl rfl ?_
  refine C.bipush (q := 985) (z := (21 : Int32)) at_983 rfl rfl ?_
  refine C.callS (q := 988) 1 [.ref a349, .int e.toInt8.toInt32, .int (Int32.ofNat t), .int (Int32.ofNat (own_r 18 v.toInt.toNat)), .long v, .ref a22, .int (21 : Int32)] [.int (1 : Int32)] at_985 (hw _ (List.mem_of_getElem? (i := 33) rfl)) (hw _ (List.mem_of_getElem? (i := 34) rfl)) (hw _ (List.mem_of_getElem? (i := 21) rfl)) (hw _ (List.mem_of_getElem? (i := 35) rfl)) (own_c5 l Z a0 n0 hw [] a349 a22 e.toInt8.toInt32 t (own_r 18 v.toInt.toNat) v 21 _ hv0 ht (own_r_ge 18 _) (own_r_le 18 _) (by decide) hfb (own_pt_at t _ v _)) (by decide) (by decide) (by decide) own_pd3 rfl rfl rfl (Nat.le_of_eq rfl) (by decide) (by decide) rfl ?_
  rintro _ _ ⟨rfl, hE⟩
  rw [hE]
  show G 2 42 [(a22, .inl (.long, [.long (1 : Int64), .long (10 : Int64), .long (100 : Int64), .long (1000 : Int64), .long (10000 : Int64), .long (100000 : Int64), .long (1000000 : Int64), .long (10000000 : Int64), .long (100000000 : Int64), .long (1000000000 : Int64), .long (10000000000 : Int64), .long (100000000000 : Int64), .long (1000000000000 : Int64), .long (10000000000000 : Int64), .long (100000000000000 : Int64), .long (1000000000000000 : Int64), .long (10000000000000000 : Int64), .long (100000000000000000 : Int64), .long (1000000000000000000 : Int64)])), (a349, .inl (.byte, (own_arr (own_pt t (own_r 18 v.toInt.toNat) v fun _ => nar .byte e.toInt8.toInt32))))] 988 [.val (.long a), .second, .val (.int b), .val (.int c), .val (.int e), .val (.long v), .second, .val (.int (Int32.ofNat t)), .val (.int e.toInt8.toInt32), .val (.ref a22), .val (.int (Int32.ofNat (own_r 18 v.toInt.toNat))), .val (.ref a349), .val (.int (Int32.ofNat (t + (own_r 18 v.toInt.toNat)))), .val (.int (1 : Int32))] [.int (1 : Int32), .int (1 : Int32)]
  refine C.iand (q := 989) at_988 rfl ?_
  show G 2 42 [(a22, .inl (.long, [.long (1 : Int64), .long (10 : Int64), .long (100 : Int64), .long (1000 : Int64), .long (10000 : Int64), .long (100000 : Int64), .long (1000000 : Int64), .long (10000000 : Int64), .long (100000000 : Int64), .long (1000000000 : Int64), .long (10000000000 : Int64), .long (100000000000 : Int64), .long (1000000000000 : Int64), .long (10000000000000 : Int64), .long (100000000000000 : Int64), .long (1000000000000000 : Int64), .long (10000000000000000 : Int64), .long (100000000000000000 : Int64), .long (1000000000000000000 : Int64)])), (a349, .inl (.byte, (own_arr (own_pt t (own_r 18 v.toInt.toNat) v fun _ => nar .byte e.toInt8.toInt32))))] 989 [.val (.long a), .second, .val (.int b), .val (.int c), .val (.int e), .val (.long v), .second, .val (.int (Int32.ofNat t)), .val (.int e.toInt8.toInt32), .val (.ref a22), .val (.int (Int32.ofNat (own_r 18 v.toInt.toNat))), .val (.ref a349), .val (.int (Int32.ofNat (t + (own_r 18 v.toInt.toNat)))), .val (.int (1 : Int32))] [.int (1 : Int32)]
  refine C.istore (q := 991) (ls' := [.val (.long a), .second, .val (.int b), .val (.int c), .val (.int e), .val (.long v), .second, .val (.int (Int32.ofNat t)), .val (.int e.toInt8.toInt32), .val (.ref a22), .val (.int (Int32.ofNat (own_r 18 v.toInt.toNat))), .val (.ref a349), .val (.int (Int32.ofNat (t + (own_r 18 v.toInt.toNat)))), .val (.int (1 : Int32))]) at_989 rfl rfl ?_
  refine C.iload (q := 993) at_991 rfl rfl ?_
  refine C.aload (q := 995) at_993 rfl rfl rfl ?_
  refine C.iload (q := 997) at_995 rfl rfl ?_
  refine C.iload (q := 999) at_997 rfl rfl ?_
  refine C.iload (q := 1001) at_999 rfl rfl ?_
  refine C.lload (q := 1003) at_1001 rfl rfl ?_
  refine C.aload (q := 1005) at_1003 rfl rfl rfl ?_
  refine C.bipush (q := 1007) (z := (22 : Int32)) at_1005 rfl rfl ?_
  refine C.callS (q := 1010) 1 [.ref a349, .int e.toInt8.toInt32, .int (Int32.ofNat t), .int (Int32.ofNat (own_r 18 v.toInt.toNat)), .long v, .ref a22, .int (22 : Int32)] [.int (1 : Int32)] at_1007 (hw _ (List.mem_of_getElem? (i := 33) rfl)) (hw _ (List.mem_of_getElem? (i := 34) rfl)) (hw _ (List.mem_of_getElem? (i := 21) rfl)) (hw _ (List.mem_of_getElem? (i := 35) rfl)) (own_c5 l Z a0 n0 hw [] a349 a22 e.toInt8.toInt32 t (own_r 18 v.toInt.toNat) v 22 _ hv0 ht (own_r_ge 18 _) (own_r_le 18 _) (by decide) hfb (own_pt_at t _ v _)) (by decide) (by decide) (by decide) own_pd3 rfl rfl rfl (Nat.le_of_eq rfl) (by decide) (by decide) rfl ?_
  rintro _ _ ⟨rfl, hE⟩
  rw [hE]
  show G 2 42 [(a22, .inl (.long, [.long (1 : Int64), .long (10 : Int64), .long (100 : Int64), .long (1000 : Int64), .long (10000 : Int64), .long (100000 : Int64), .long (1000000 : Int64), .long (10000000 : Int64), .long (100000000 : Int64), .long (1000000000 : Int64), .long (10000000000 : Int64), .long (100000000000 : Int64), .long (1000000000000 : Int64), .long (10000000000000 : Int64), .long (100000000000000 : Int64), .long (1000000000000000 : Int64), .long (10000000000000000 : Int64), .long (100000000000000000 : Int64), .long (1000000000000000000 : Int64)])), (a349, .inl (.byte, (own_arr (own_pt t (own_r 18 v.toInt.toNat) v fun _ => nar .byte e.toInt8.toInt32))))] 1010 [.val (.long a), .second, .val (.int b), .val (.int c), .val (.int e), .val (.long v), .second, .val (.int (Int32.ofNat t)), .val (.int e.toInt8.toInt32), .val (.ref a22), .val (.int (Int32.ofNat (own_r 18 v.toInt.toNat))), .val (.ref a349), .val (.int (Int32.ofNat (t + (own_r 18 v.toInt.toNat)))), .val (.int (1 : Int32))] [.int (1 : Int32), .int (1 : Int32)]
  refine C.iand (q := 1011) at_1010 rfl ?_
  show G 2 42 [(a22, .inl (.long, [.long (1 : Int64), .long (10 : Int64), .long (100 : Int64), .long (1000 : Int64), .long (10000 : Int64), .long (100000 : Int64), .long (1000000 : Int64), .long (10000000 : Int64), .long (100000000 : Int64), .long (1000000000 : Int64), .long (10000000000 : Int64), .long (100000000000 : Int64), .long (1000000000000 : Int64), .long (10000000000000 : Int64), .long (100000000000000 : Int64), .long (1000000000000000 : Int64), .long (10000000000000000 : Int64), .long (100000000000000000 : Int64), .long (1000000000000000000 : Int64)])), (a349, .inl (.byte, (own_arr (own_pt t (own_r 18 v.toInt.toNat) v fun _ => nar .byte e.toInt8.toInt32))))] 1011 [.val (.long a), .second, .val (.int b), .val (.int c), .val (.int e), .val (.long v), .second, .val (.int (Int32.ofNat t)), .val (.int e.toInt8.toInt32), .val (.ref a22), .val (.int (Int32.ofNat (own_r 18 v.toInt.toNat))), .val (.ref a349), .val (.int (Int32.ofNat (t + (own_r 18 v.toInt.toNat)))), .val (.int (1 : Int32))] [.int (1 : Int32)]
  refine C.istore (q := 1013) (ls' := [.val (.long a), .second, .val (.int b), .val (.int c), .val (.int e), .val (.long v), .second, .val (.int (Int32.ofNat t)), .val (.int e.toInt8.toInt32), .val (.ref a22), .val (.int (Int32.ofNat (own_r 18 v.toInt.toNat))), .val (.ref a349), .val (.int (Int32.ofNat (t + (own_r 18 v.toInt.toNat)))), .val (.int (1 : Int32))]) at_1011 rfl rfl ?_
  refine C.iload (q := 1015) at_1013 rfl rfl ?_
  exact C.retB (by simp) at_1015 (by decide) (by decide) rfl
set_option maxRecDepth 65536 in
set_option maxHeartbeats 40000000 in
theorem comes_1 {Post : Tables → Env → Array Value → State → Outcome → State → Prop} (hpost : ∀ tb e args s v u, (limb_1_1.after args s (.returned v) u = true ∧ limb_1_2.after args s (.returned v) u = true ∧ True) → FrameEnd s (.returned v) u (Jvm.fieldLocs frame_1_writes args s ++ Jvm.arrayLocs frame_1_arrays args s ++ Jvm.staticLocs frame_1_statics s) 16 192 → Post tb e args s (.returned v) u) :
    ArmFor flags0 classFile x code maxLocals ret World_1 tables_1 room_1 Calls_1 rest_1 Pre_1 Post := by
  intro l hfl _ _ p e ha hc hk s m args below hf hA hF happ hP
  obtain ⟨hcalls, hrest, hpre⟩ := hP
  obtain ⟨-, -, -, hnamed, -, -, -, hat⟩ := (Spec.applies_iff hf).mp happ
  obtain ⟨hg, hn⟩ := and_e (Cond.before_iff.mp (show (Jvm.Cond.and given_1 narrow_1).before args s = true from hpre))
  obtain ⟨hcnt, g0⟩ := and_e hg
  obtain ⟨q0, g1⟩ := and_e g0
  obtain ⟨q1, g2⟩ := and_e g1
  obtain ⟨q2, g3⟩ := and_e g2
  obtain ⟨w0, w1, w2, w3, rfl⟩ : ∃ w0 w1 w2 w3 : Value, args = #[w0, w1, w2, w3] := by
    have hs : args.size = 4 := by simpa [Cond.value, given_1] using hcnt
    obtain ⟨L⟩ := args
    match L, hs with
    | [w0, w1, w2, w3], _ => exact ⟨w0, w1, w2, w3, rfl⟩
  have hw := fun d (hd : d ∈ tables_1) => atoms_spec (ws := Jvm.Cond.code x code maxLocals ret :: tables_1) hat d (List.mem_cons_of_mem _ hd)
  obtain ⟨i0, e0⟩ := isL_v q0
  obtain rfl : w0 = (.long i0) := Option.some.inj e0
  obtain ⟨i1, e1⟩ := is_v q1
  obtain rfl : w1 = (.int i1) := Option.some.inj e1
  obtain ⟨i2, e2⟩ := is_v q2
  obtain rfl : w2 = (.int i2) := Option.some.inj e2
  obtain ⟨i3, e3⟩ := is_v g3
  obtain rfl : w3 = (.int i3) := Option.some.inj e3
  obtain ⟨n, o, h1, h2, h3, _, L, rfl, ⟨N, H', hH', hv⟩, hq⟩ := own_claw l s _ s.heap.size hw tables_1 i0 i1 i2 i3  s.heap ⟨Nat.le_refl _, fun i j a o o' z => by simp at z, fun i a o z => by simp at z⟩ p e ha hc hk s m _ below hf ((Spec.applies_iff_loose hf).mp happ).1 ⟨rfl, State.Warmed39.refl s, rfl⟩ trivial
  cases hv
  refine ⟨n, _, h1, h2, h3, hpost _ _ _ _ _ _ ⟨Cond.after_iff.mpr rfl, Cond.after_iff.mpr (eq_i res_at (Term.int_eval (1)) rfl), trivial⟩ ⟨hq.1, hq.2.1, (hq.2.2.sift fun y hy => Or.inr (N y hy)).mono (by decide) (by decide)⟩⟩
theorem main_1_1 : Claimed_1_1 := comes_1 fun _ _ _ _ _ _ h hF => ⟨h.1, hF⟩
theorem main_1_2 : Claimed_1_2 := comes_1 fun _ _ _ _ _ _ h hF => ⟨h.2.1, hF⟩
end Jvm.Pilot.@@N@@
namespace Jvm.Pilot.@@N@@
open Jvm Jvm.ClassFile Sem Op Lib Jvm.Free Jvm.Stand Jvm.Pilot.@@N@@.Jvm.D
/-! MADE BY PROGRAM (witnessworld.py) out of the Statement's table words and the real class files: 11 classes; the members and pool entries that the words name. The judged class is class 1, her method 3. -/
namespace start1
open Jvm.ClassFile
def u (s : String) : CpInfo := .utf8 (stringToUtf16 s)
/-- a pool by its gaps: so many unusable entries, then the entry; so many at the end -/
def gap : Nat → List CpInfo → List CpInfo
  | 0, r => r
  | n + 1, r => .unusable :: gap n r
def poolList (es : List (Nat × CpInfo)) (last : Nat) : List CpInfo := es.foldr (fun e r => gap e.1 (e.2 :: r)) (gap last [])
def pool (es : List (Nat × CpInfo)) (last : Nat) : Array CpInfo := ⟨poolList es last⟩
def fileOf (pool : Array CpInfo) (this : Nat) (attrs : Array Attribute := #[]) (ms : Array MethodInfo := #[]) (fl : Nat := 33) (sup : Nat := 0) (ifs : Array Nat := #[]) (fds : Array FieldInfo := #[]) : ClassFile where
  minorVersion := 0
  majorVersion := 65
  constantPool := pool
  accessFlags := fl
  thisClass := this
  superClass := sup
  interfaces := ifs
  fields := fds
  methods := ms
  attributes := attrs
def plain (name : String) (sup : Option ClassId) : Class where
  name := name
  kind := .ordinary
  loader := none
  accessFlags := 33
  super := sup
  interfaces := #[]
  cf := none
  fields := #[]
  methods := #[]
  instanceTypes := #[]
  staticTypes := #[]
  resolved := #[]
  callSites := []
  init := .initialized
  statics := none
  mirror := none

def pool0 : Array CpInfo := pool [(5, u "<init>"), (0, u "()V"), (1, .class_ 10), (1, u "java/lang/Object")] 113

def k0m0 : Method := { name := "<init>", desc := "()V", sig := { parameters := [], returnType := none }, accessFlags := 1, code := none }
/-- java/lang/Object -/
def k0 : Class := { plain "java/lang/Object" none with
  accessFlags := 33
  interfaces := #[]
  cf := some (fileOf pool0 8 #[] #[{ accessFlags := 1, nameIndex := 5, descriptorIndex := 6, attributes := #[] }] 33 0 #[] #[])
  fields := #[]
  methods := #[k0m0]
  instanceTypes := #[]
  staticTypes := #[]
  resolved := Array.replicate 124 none
  statics := none }

def pool1 : Array CpInfo := pool [(2, .class_ 4), (1, u "java/lang/Object"), (0, u "<init>"), (0, u "()V"), (0, .long 48), (1, .long 10), (1, .long 100), (1, .long 1000), (1, .long 10000), (1, .long 100000), (1, .long 1000000), (1, .long 10000000), (1, .long 100000000), (1, .long 1000000000), (1, .long 10000000000), (1, .long 100000000000), (1, .long 1000000000000), (1, .long 10000000000000), (1, .long 100000000000000), (1, .long 1000000000000000), (1, .long 10000000000000000), (1, .long 100000000000000000), (1, .long 1000000000000000000), (1, .methodref 46 47), (0, .class_ 48), (0, .nameAndType 49 50), (0, u "com/example/bowerbird/bowerbird/http/server/AsciiDigitsPutPinLaw"), (0, u "ge"), (0, u "(JJ)I"), (0, .methodref 52 53), (0, .class_ 54), (0, .nameAndType 55 56), (0, u "com/example/bowerbird/bowerbird/http/server/AsciiDigits"), (0, u "put"), (0, u "(J[BI)I"), (0, .methodref 46 58), (0, .nameAndType 59 60), (0, u "cell"), (0, u "([BBIIJ[JI)Z"), (3, u "law"), (0, u "(JIII)Z")] 6

def k1m0 : Method := { name := "<init>", desc := "()V", sig := { parameters := [], returnType := none }, accessFlags := 2, code := none }
def k1c1 : Code := { maxStack := 4, maxLocals := 4, code := method_2_code, exceptionTable := #[], attributes := #[] }
def k1m1 : Method := { name := "ge", desc := "(JJ)I", sig := { parameters := [.long, .long], returnType := some .int }, accessFlags := 10, code := some k1c1 }
def k1c2 : Code := { maxStack := 7, maxLocals := 9, code := method_3_code, exceptionTable := #[], attributes := #[] }
def k1m2 : Method := { name := "cell", desc := "([BBIIJ[JI)Z", sig := { parameters := [(.array .byte), .byte, .int, .int, .long, (.array .long), .int], returnType := some .boolean }, accessFlags := 10, code := some k1c2 }
def k1c3 : Code := { maxStack := 9, maxLocals := 14, code := code, exceptionTable := #[], attributes := #[] }
def k1m3 : Method := { name := "law", desc := "(JIII)Z", sig := { parameters := [.long, .int, .int, .int], returnType := some .boolean }, accessFlags := 9, code := some k1c3 }
/-- com/example/bowerbird/bowerbird/http/server/AsciiDigitsPutPinLaw -/
def k1 : Class := { plain "com/example/bowerbird/bowerbird/http/server/AsciiDigitsPutPinLaw" (some 0) with
  accessFlags := 49
  interfaces := #[]
  cf := some (fileOf pool1 46 #[] #[{ accessFlags := 2, nameIndex := 5, descriptorIndex := 6, attributes := #[] }, { accessFlags := 10, nameIndex := 49, descriptorIndex := 50, attributes := #[] }, { accessFlags := 10, nameIndex := 59, descriptorIndex := 60, attributes := #[] }, { accessFlags := 9, nameIndex := 64, descriptorIndex := 65, attributes := #[] }] 49 2 #[] #[])
  fields := #[]
  methods := #[k1m0, k1m1, k1m2, k1m3]
  instanceTypes := #[]
  staticTypes := #[]
  resolved := Array.replicate 72 none
  statics := none }

def pool2 : Array CpInfo := pool [(2, .class_ 4), (1, u "java/lang/Object"), (0, u "<init>"), (0, u "()V"), (0, .long 10), (1, .methodref 10 11), (0, .class_ 12), (0, .nameAndType 13 14), (0, u "com/example/bowerbird/bowerbird/http/server/AsciiDigits"), (0, u "count"), (0, u "(J)I"), (0, .long 48), (4, u "put"), (0, u "(J[BI)I")] 2

def k2m0 : Method := { name := "<init>", desc := "()V", sig := { parameters := [], returnType := none }, accessFlags := 2, code := none }
def k2c1 : Code := { maxStack := 4, maxLocals := 5, code := prog_64_method_2_code, exceptionTable := #[], attributes := #[] }
def k2m1 : Method := { name := "count", desc := "(J)I", sig := { parameters := [.long], returnType := some .int }, accessFlags := 9, code := some k2c1 }
def k2c2 : Code := { maxStack := 8, maxLocals := 8, code := prog_64_method_3_code, exceptionTable := #[], attributes := #[] }
def k2m2 : Method := { name := "put", desc := "(J[BI)I", sig := { parameters := [.long, (.array .byte), .int], returnType := some .int }, accessFlags := 9, code := some k2c2 }
/-- com/example/bowerbird/bowerbird/http/server/AsciiDigits -/
def k2 : Class := { plain "com/example/bowerbird/bowerbird/http/server/AsciiDigits" (some 0) with
  accessFlags := 33
  interfaces := #[]
  cf := some (fileOf pool2 10 #[] #[{ accessFlags := 2, nameIndex := 5, descriptorIndex := 6, attributes := #[] }, { accessFlags := 9, nameIndex := 13, descriptorIndex := 14, attributes := #[] }, { accessFlags := 9, nameIndex := 20, descriptorIndex := 21, attributes := #[] }] 33 2 #[] #[])
  fields := #[]
  methods := #[k2m0, k2m1, k2m2]
  instanceTypes := #[]
  staticTypes := #[]
  resolved := Array.replicate 24 none
  statics := none }

def pool3 : Array CpInfo := pool [(1, u "java/lang/Cloneable"), (0, .class_ 1), (0, u "java/lang/Object"), (0, .class_ 3)] 3

/-- java/lang/Cloneable -/
def k3 : Class := { plain "java/lang/Cloneable" (some 0) with
  accessFlags := 1537
  interfaces := #[]
  cf := some (fileOf pool3 2 #[] #[] 1537 4 #[] #[])
  fields := #[]
  methods := #[]
  instanceTypes := #[]
  staticTypes := #[]
  resolved := Array.replicate 8 none
  statics := none }

def pool4 : Array CpInfo := pool [(1, u "java/io/Serializable"), (0, .class_ 1), (0, u "java/lang/Object"), (0, .class_ 3)] 3

/-- java/io/Serializable -/
def k4 : Class := { plain "java/io/Serializable" (some 0) with
  accessFlags := 1537
  interfaces := #[]
  cf := some (fileOf pool4 2 #[] #[] 1537 4 #[] #[])
  fields := #[]
  methods := #[]
  instanceTypes := #[]
  staticTypes := #[]
  resolved := Array.replicate 8 none
  statics := none }

/-- the primitive byte -/
def k5 : Class := { plain "byte" none with kind := .primitive 'B', accessFlags := 0x411 }
/-- [B -/
def k6 : Class := { plain "[B" (some 0) with kind := .array 5 .byte, interfaces := #[3, 4], accessFlags := 1041 }

/-- the primitive int -/
def k7 : Class := { plain "int" none with kind := .primitive 'I', accessFlags := 0x411 }
/-- [I -/
def k8 : Class := { plain "[I" (some 0) with kind := .array 7 .int, interfaces := #[3, 4], accessFlags := 1041 }

/-- the primitive long -/
def k9 : Class := { plain "long" none with kind := .primitive 'J', accessFlags := 0x411 }
/-- [J -/
def k10 : Class := { plain "[J" (some 0) with kind := .array 9 .long, interfaces := #[3, 4], accessFlags := 1041 }

def heap : Heap := #[]
def classes : Array Class := #[k0, k1, k2, k3, k4, k5, k6, k7, k8, k9, k10]
def interned : List (Array UInt16 × Addr) := []
def slotsUsed : Nat := 0
def theMethod : MethodId := ⟨1, 3⟩
def args0 : Array Value := #[.long 5, .int 1, .int 2, .int 3]
def aboutOver (below : List Frame) : State where
  vm := { classes := classes, interned := interned.toArray }
  heap := heap
  slotsUsed := slotsUsed
  threads := #[{ frames := .invoking theMethod args0 :: below }]
def below0 : List Frame := [.native { method := ⟨0, 0⟩, args := #[] }]
def about1 : State := aboutOver below0
def p0 : Program := .bare "" "" ""
def e0 : Env := launch0.env 0 0 0
theorem w_frames : about1.frames = Frame.invoking theMethod args0 :: below0 := rfl
set_option maxRecDepth 65536 in
theorem w_args : argsFit about1.vm theMethod args0 = true := by decide +kernel
set_option maxRecDepth 65536 in
theorem w_heap : heapFits about1 = true := by decide +kernel
set_option maxRecDepth 65536 in
theorem w_runnable : about1.curStatus? = some .runnable := by decide +kernel
set_option maxRecDepth 65536 in
theorem w_alone : about1.alone = true := by decide +kernel
set_option maxRecDepth 65536 in
theorem w_named : about1.methodNamed? x = some theMethod := by decide +kernel
set_option maxRecDepth 65536 in
theorem w_hears : about1.hears theMethod below0 = true := by decide +kernel
set_option maxRecDepth 65536 in
theorem w_ripe : about1.ripe theMethod args0 below0 = true := by decide +kernel
theorem w_running : about1.status = .running := rfl
set_option maxRecDepth 65536 in
theorem w_room : about1.hasRoom e0.platform room_1 = true :=
  launch0.hasRoom_least _ room_1 (by decide +kernel) (by decide +kernel) (by decide +kernel) (by decide +kernel) (by decide +kernel) (by decide +kernel)
theorem allAtoms_all (ts : List Jvm.Cond) (a : Array Jvm.Value) (st : Jvm.State) : (allAtoms ts).before a st = ts.all (fun c => c.before a st) := by
  induction ts with
  | nil => rfl
  | cons c t ih =>
    show (Jvm.Cond.and c (allAtoms t)).before a st = _
    rw [Jvm.Cond.before_and, ih, List.all_cons]
def words1 : List Jvm.Cond := Jvm.Cond.code x code maxLocals ret :: tables_1
/-- a 'code' word, met by the world's own term for the bytes: nothing is compared byte by byte -/
theorem code_word {y : MethodName} {bytes : ByteArray} {mx : Nat} {rt : Option FieldType} {a : Array Value} {s : State} {m : MethodId} {meth : Method} {c : Code} (h1 : s.methodNamed? y = some m) (h2 : s.vm.method? m = some meth) (h3 : meth.code = some c) (h4 : c.code = bytes)
    (h5 : (c.maxLocals == mx && c.exceptionTable.isEmpty && decide (c.maxStack ≤ mostOperands) && decide (meth.sig.returnType = rt) && !meth.locks && decide (parseMethodDescriptor y.desc = some meth.sig)) = true) : (Jvm.Cond.code y bytes mx rt).before a s = true := by
  simp only [Bool.and_eq_true, beq_iff_eq, Bool.not_eq_true', decide_eq_true_eq] at h5
  obtain ⟨⟨⟨⟨⟨g1, g2⟩, g3⟩, g4⟩, g5⟩, g6⟩ := h5
  simp [Cond.before, Cond.holds, Cond.value, h1, h2, h3, h4, g1, g2, g3, g4, g5, g6]
def isCode : Jvm.Cond → Bool
  | .code _ _ _ _ => true
  | _ => false
theorem all_split {L : List Jvm.Cond} {P : Jvm.Cond → Bool} (h1 : L.all (fun c => isCode c || P c) = true) (h2 : ∀ c ∈ L.filter isCode, P c = true) : L.all P = true := by
  refine List.all_eq_true.mpr fun c hc => ?_
  have h := List.all_eq_true.mp h1 c hc
  rcases Bool.eq_false_or_eq_true (isCode c) with hi | hi
  · exact h2 c (List.mem_filter.mpr ⟨hc, hi⟩)
  · simpa [hi] using h
set_option maxRecDepth 65536 in
theorem w_c0 : (Jvm.Cond.code x code maxLocals ret).before args0 about1 = true := code_word (m := ⟨1, 3⟩) (meth := k1m3) (c := k1c3) (by decide +kernel) rfl rfl rfl (by decide +kernel)
set_option maxRecDepth 65536 in
theorem w_c1 : (Jvm.Cond.code ({ cls := "com/example/bowerbird/bowerbird/http/server/AsciiDigitsPutPinLaw", name := "ge", desc := "(JJ)I" } : Jvm.MethodName) method_2_code (4 : Nat) (Option.some Jvm.ClassFile.FieldType.int)).before args0 about1 = true := code_word (m := ⟨1, 1⟩) (meth := k1m1) (c := k1c1) (by decide +kernel) rfl rfl rfl (by decide +kernel)
set_option maxRecDepth 65536 in
theorem w_c2 : (Jvm.Cond.code ({ cls := "com/example/bowerbird/bowerbird/http/server/AsciiDigits", name := "put", desc := "(J[BI)I" } : Jvm.MethodName) prog_64_method_3_code (8 : Nat) (Option.some Jvm.ClassFile.FieldType.int)).before args0 about1 = true := code_word (m := ⟨2, 2⟩) (meth := k2m2) (c := k2c2) (by decide +kernel) rfl rfl rfl (by decide +kernel)
set_option maxRecDepth 65536 in
theorem w_c3 : (Jvm.Cond.code ({ cls := "com/example/bowerbird/bowerbird/http/server/AsciiDigits", name := "count", desc := "(J)I" } : Jvm.MethodName) prog_64_method_2_code (5 : Nat) (Option.some Jvm.ClassFile.FieldType.int)).before args0 about1 = true := code_word (m := ⟨2, 1⟩) (meth := k2m1) (c := k2c1) (by decide +kernel) rfl rfl rfl (by decide +kernel)
set_option maxRecDepth 65536 in
theorem w_c4 : (Jvm.Cond.code ({ cls := "com/example/bowerbird/bowerbird/http/server/AsciiDigitsPutPinLaw", name := "cell", desc := "([BBIIJ[JI)Z" } : Jvm.MethodName) method_3_code (9 : Nat) (Option.some Jvm.ClassFile.FieldType.boolean)).before args0 about1 = true := code_word (m := ⟨1, 2⟩) (meth := k1m2) (c := k1c2) (by decide +kernel) rfl rfl rfl (by decide +kernel)
def codes1 : List Jvm.Cond := [Jvm.Cond.code x code maxLocals ret, Jvm.Cond.code ({ cls := "com/example/bowerbird/bowerbird/http/server/AsciiDigitsPutPinLaw", name := "ge", desc := "(JJ)I" } : Jvm.MethodName) method_2_code (4 : Nat) (Option.some Jvm.ClassFile.FieldType.int), Jvm.Cond.code ({ cls := "com/example/bowerbird/bowerbird/http/server/AsciiDigits", name := "put", desc := "(J[BI)I" } : Jvm.MethodName) prog_64_method_3_code (8 : Nat) (Option.some Jvm.ClassFile.FieldType.int), Jvm.Cond.code ({ cls := "com/example/bowerbird/bowerbird/http/server/AsciiDigits", name := "count", desc := "(J)I" } : Jvm.MethodName) prog_64_method_2_code (5 : Nat) (Option.some Jvm.ClassFile.FieldType.int), Jvm.Cond.code ({ cls := "com/example/bowerbird/bowerbird/http/server/AsciiDigitsPutPinLaw", name := "cell", desc := "([BBIIJ[JI)Z" } : Jvm.MethodName) method_3_code (9 : Nat) (Option.some Jvm.ClassFile.FieldType.boolean)]
set_option maxRecDepth 65536 in
theorem codes_eq : words1.filter isCode = codes1 := rfl
theorem w_codes : ∀ c ∈ words1.filter isCode, c.before args0 about1 = true := by
  rw [codes_eq]
  intro c hc
  simp only [codes1, List.mem_cons, List.not_mem_nil, or_false] at hc
  rcases hc with rfl | rfl | rfl | rfl | rfl
  · exact w_c0
  · exact w_c1
  · exact w_c2
  · exact w_c3
  · exact w_c4
set_option maxRecDepth 65536 in
theorem w_t1 : (words1.take 24).all (fun c => isCode c || c.before args0 about1) = true := by decide +kernel
set_option maxRecDepth 65536 in
theorem w_t2 : (words1.drop 24).all (fun c => isCode c || c.before args0 about1) = true := by decide +kernel
theorem w_tables : (allAtoms (Jvm.Cond.code x code maxLocals ret :: tables_1)).before args0 about1 = true := by
  rw [allAtoms_all]
  show words1.all (fun c => c.before args0 about1) = true
  refine all_split ?_ w_codes
  rw [← List.take_append_drop 24 words1, List.all_append, w_t1, w_t2]
  rfl
set_option maxRecDepth 65536 in
theorem w_case : (Jvm.Cond.and given_1 narrow_1).before args0 about1 = true := by decide +kernel
theorem w_applies : (headSpec (Jvm.Cond.code x code maxLocals ret :: tables_1) room_1).applies x e0.platform about1 = true :=
  (Spec.applies_iff w_frames).mpr ⟨w_running, w_runnable, w_alone, w_named, w_hears, w_ripe, w_room, w_tables⟩
theorem atStart : AtStart classFile x code maxLocals ret World_1 tables_1 room_1 Calls_1 rest_1 Pre_1 launch0 p0 e0 about1 theMethod args0 below0 :=
  ⟨lists_1, trivial, launch0.admits_env _ _ _, launch0.least_env, fairChoices_fair.cas, fairChoices_fair.clock, w_frames, w_args, w_heap, w_applies, trivial, trivial, w_case⟩
end start1
theorem witness_1 : WitnessClaimed_1 := ⟨start1.p0, start1.e0, start1.about1, start1.theMethod, start1.args0, start1.below0, start1.atStart⟩
end Jvm.Pilot.@@N@@
