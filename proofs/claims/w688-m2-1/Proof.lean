import JvmDerived
import JvmDerived.Pilot.@@N@@Statement
import JvmDerived.Pilot.@@N@@Code
set_option linter.unusedVariables false
set_option linter.unusedSimpArgs false
namespace Jvm.Pilot.@@N@@
open Jvm Jvm.ClassFile Sem Op Lib Jvm.Free Jvm.Stand Jvm.LawKit Jvm.RoadKit Bundle Jvm.Pilot.@@N@@.Jvm.D
-- OWN KIT: a walk over an abstract heap. 'own_Ob': an array (kind, values) or an object (class, fields).
abbrev own_Ob : Type := (FieldType × List Value) ⊕ (String × List (String × String × Value))
abbrev own_Hs : Type := List (Addr × own_Ob)
def own_is (Z : State) (h : Heap) (a : Addr) : own_Ob → Prop
  | .inl q => ∃ c : Cell, Arr Z h a c q.1 ∧ c.slots.toList = q.2 ∧ (q.1 = .int → Z.vm.findClass "[I" = some c.cls)
  | .inr q => Exa Z h a q.1 ∧ (∀ (i j : Nat) (f g : String × String × Value), q.2[i]? = some f → q.2[j]? = some g → RoadKit.slotOf Z q.1 f.1 f.2.1 = RoadKit.slotOf Z q.1 g.1 g.2.1 → i = j) ∧ ∀ (i : Nat) (f : String × String × Value), q.2[i]? = some f → Fld Z h a q.1 f.1 f.2.1 f.2.2
/-- the objects made since the law began, each at its own address -/
def own_Hp (Z : State) (n0 : Nat) (h : Heap) (H : own_Hs) : Prop :=
  n0 ≤ h.size ∧ (∀ (i j : Nat) (a : Addr) (o o' : own_Ob), H[i]? = some (a, o) → H[j]? = some (a, o') → i = j) ∧ ∀ (i : Nat) (a : Addr) (o : own_Ob), H[i]? = some (a, o) → n0 ≤ a ∧ a < h.size ∧ own_is Z h a o
/-- what is owed at the end -/
def own_P (Z : State) (n0 : Nat) (s : State) (below : List Frame) (R : Room) (Q : Option Value → own_Hs → Prop) (t : State) (o : Outcome) : Prop :=
  t.status = .running ∧ Ended t below o ∧ ∃ v L, o = .returned v ∧ (Fr n0 L ∧ ∃ H', own_Hp Z n0 t.heap H' ∧ Q v H') ∧ FrameEnd s o t L R.cells R.slots
def own_Go (Z : State) (n0 : Nat) (p : Program) (l : Launch) (e : Env) (R : Room) (s : State) (m : MethodId) (args : Array Value) (below : List Frame) (meth : Method) (c : Code) (P : State → Outcome → Prop)
    (k n : Nat) (H : own_Hs) (pc : Nat) (ls : List Slot) (st : List Value) : Prop :=
  ∀ T L, Stand p l e R s m args below meth c T L k n → Fr n0 L → own_Hp Z n0 T.heap H → ∃ t o, Steps p.tables e below (T.setTop (mkF m pc ⟨ls⟩ st)) t ∧ P t o
/-- G is the walk of y's body -/
def own_Wk (Z : State) (n0 : Nat) (R : Room) (y : MethodName) (bytes : ByteArray) (maxL : Nat) (ret : Option FieldType) (l : Launch) (Q : Option Value → own_Hs → Prop)
    (G : Nat → Nat → own_Hs → Nat → List Slot → List Value → Prop) : Prop :=
  ∃ p e s m args below meth c, G = own_Go Z n0 p l e R s m args below meth c (own_P Z n0 s below R Q) ∧ p.tables.exec = Jvm.exec ∧ Z.Warmed39 s.vm ∧ c.code = bytes ∧ c.maxLocals = maxL ∧
    s.vm.findClass y.cls = some m.cls ∧ meth.name = y.name ∧ meth.sig.returnType = ret ∧ meth.locks = false
/-- y's contract -/
def own_Con (l : Launch) (Z : State) (n0 : Nat) (y : MethodName) (bytes : ByteArray) (maxL : Nat) (ret : Option FieldType) (ws : List Jvm.Cond) (rm : Room) (as : Array Value) (H : own_Hs) (Q : Option Value → own_Hs → Prop) : Prop :=
  ∀ h0, own_Hp Z n0 h0 H → MetFree l y (head1 (Jvm.Cond.code y bytes maxL ret :: ws) rm) (fun a U => a = as ∧ Z.Warmed39 U.vm ∧ U.heap = h0) (fun _ _ _ _ _ => True)
    (fun _ U o U' => ∃ v L, o = .returned v ∧ (Fr n0 L ∧ ∃ H', own_Hp Z n0 U'.heap H' ∧ Q v H') ∧ FrameEnd U o U' L rm.cells rm.slots)
section OwnKit
variable {Z : State} {a0 : Array Value} {n0 : Nat} {R : Room} {y : MethodName} {bytes : ByteArray} {maxL : Nat} {ret : Option FieldType} {l : Launch} {Q : Option Value → own_Hs → Prop}
  {G : Nat → Nat → own_Hs → Nat → List Slot → List Value → Prop} {k n : Nat} {H : own_Hs} {pc q q' : Nat} {ls ls' : List Slot} {st st' : List Value}
theorem own_con {ws : List Jvm.Cond} {as : Array Value} {ls0 : List Slot} (hp : plainFor y = true) (hef : ∀ m, entryFrame m as maxL = mkF m 0 ⟨ls0⟩ []) (body : ∀ G, own_Wk Z n0 R y bytes maxL ret l Q G → G 0 0 H 0 ls0 []) :
    own_Con l Z n0 y bytes maxL ret ws R as H Q := by
  intro h0 hH
  refine MetFree.of_bodySF hp hisR ?_
  intro p e s m args below meth c s₁ Bd hml0 hP hK
  obtain ⟨ha, hZ, hh⟩ := hP
  subst ha
  have e0 : s₁.heap = h0 := by rw [← hh, Bd.state]; rfl
  have hown : s.vm.findClass y.cls = some m.cls := findClass_of_methodNamed Bd.named
  have hnm := (name_of_methodNamed Bd.named Bd.method).1
  obtain ⟨t, o, stp, P⟩ := body _ ⟨p, e, s, m, args, below, meth, c, rfl, Bd.exec, hZ, Bd.bytes, hml0, hown, hnm, Bd.returns, BodyLoose.notSynchronized Bd⟩ s₁ [] (Stand.of_body Bd) (Fr.nil n0) (by rw [e0]; exact hH)
  exact ⟨t, o, castTop (hef m) stp, P⟩
/-- a step that touches the frame alone -/
theorem own_Wk.of (C : own_Wk Z n0 R y bytes maxL ret l Q G) (K : G k n H q ls' st')
    (h : ∀ (p : Program) (e : Env) (T t : State) (m : MethodId) (below : List Frame) (c : Code), p.tables.exec = Jvm.exec → c.code = bytes → At T m c below → Steps p.tables e below (T.setTop (mkF m q ⟨ls'⟩ st')) t → Steps p.tables e below (T.setTop (mkF m pc ⟨ls⟩ st)) t) :
    G k n H pc ls st := by
  obtain ⟨p, e, s, m, args, below, meth, c, rfl, hx, hZ, hby, hml, hown, hnm, hret, hlk⟩ := C
  intro T L X N hH
  obtain ⟨t, o, stp, P⟩ := K T L X N hH
  exact ⟨t, o, h p e T t m below c hx hby X.here stp, P⟩
theorem own_Wk.more {k' n' : Nat} (C : own_Wk Z n0 R y bytes maxL ret l Q G) (hk : k ≤ k') (hn : n ≤ n') (K : G k' n' H pc ls st) : G k n H pc ls st := by
  obtain ⟨p, e, s, m, args, below, meth, c, rfl, hx, hZ, hby, hml, hown, hnm, hret, hlk⟩ := C
  exact fun T L X N hH => K T L (X.more hk hn) N hH
theorem own_Wk.iloadN (C : own_Wk Z n0 R y bytes maxL ret l Q G) {j : Fin 4} {v : Int32} (hd : decode bytes pc = .ok (.iload_n j, 1)) (hl : (Array.mk ls)[j.val]? = some (.val (.int v))) (hq : pc + 1 = q) (K : G k n H q ls (.int v :: st)) : G k n H pc ls st := by
  subst hq; exact C.of K fun _ _ _ _ _ _ _ hx hby X s => XS.iloadN X hx rfl (hb hby hd) hl s
theorem own_Wk.iload (C : own_Wk Z n0 R y bytes maxL ret l Q G) {j : Nat} {v : Int32} (hd : decode bytes pc = .ok (.iload j, 2)) (hl : (Array.mk ls)[j]? = some (.val (.int v))) (hq : pc + 2 = q) (K : G k n H q ls (.int v :: st)) : G k n H pc ls st := by
  subst hq; exact C.of K fun _ _ _ _ _ _ _ hx hby X s => XS.iload X hx rfl (hb hby hd) hl s
theorem own_Wk.lloadN (C : own_Wk Z n0 R y bytes maxL ret l Q G) {j : Fin 4} {v : Int64} (hd : decode bytes pc = .ok (.lload_n j, 1)) (hl : (Array.mk ls)[j.val]? = some (.val (.long v))) (hq : pc + 1 = q) (K : G k n H q ls (.long v :: st)) : G k n H pc ls st := by
  subst hq; exact C.of K fun _ _ _ _ _ _ _ hx hby X s => XS.lloadN X hx rfl (hb hby hd) hl s
theorem own_Wk.lload (C : own_Wk Z n0 R y bytes maxL ret l Q G) {j : Nat} {v : Int64} (hd : decode bytes pc = .ok (.lload j, 2)) (hl : (Array.mk ls)[j]? = some (.val (.long v))) (hq : pc + 2 = q) (K : G k n H q ls (.long v :: st)) : G k n H pc ls st := by
  subst hq; exact C.of K fun _ _ _ _ _ _ _ hx hby X s => XS.lload X hx rfl (hb hby hd) hl s
theorem own_Wk.aloadN (C : own_Wk Z n0 R y bytes maxL ret l Q G) {j : Fin 4} {v : Value} (hd : decode bytes pc = .ok (.aload_n j, 1)) (hl : (Array.mk ls)[j.val]? = some (.val v)) (hv : v.isRef = true) (hq : pc + 1 = q) (K : G k n H q ls (v :: st)) : G k n H pc ls st := by
  subst hq; exact C.of K fun _ _ _ _ _ _ _ hx hby X s => XS.aloadN X hx rfl (hb hby hd) hl hv s
theorem own_Wk.aload (C : own_Wk Z n0 R y bytes maxL ret l Q G) {j : Nat} {v : Value} (hd : decode bytes pc = .ok (.aload j, 2)) (hl : (Array.mk ls)[j]? = some (.val v)) (hv : v.isRef = true) (hq : pc + 2 = q) (K : G k n H q ls (v :: st)) : G k n H pc ls st := by
  subst hq; exact C.of K fun _ _ _ _ _ _ _ hx hby X s => XS.aload X hx rfl (hb hby hd) hl hv s
theorem own_Wk.istoreN (C : own_Wk Z n0 R y bytes maxL ret l Q G) {j : Fin 4} {v : Int32} (hd : decode bytes pc = .ok (.istore_n j, 1)) (hl : storeLocals (Array.mk ls) j.val (.int v) = some (Array.mk ls')) (hq : pc + 1 = q) (K : G k n H q ls' st) : G k n H pc ls (.int v :: st) := by
  subst hq; exact C.of K fun _ _ _ _ _ _ _ hx hby X s => XS.istoreN X hx rfl (hb hby hd) rfl hl s
theorem own_Wk.istore (C : own_Wk Z n0 R y bytes maxL ret l Q G) {j : Nat} {v : Int32} (hd : decode bytes pc = .ok (.istore j, 2)) (hl : storeLocals (Array.mk ls) j (.int v) = some (Array.mk ls')) (hq : pc + 2 = q) (K : G k n H q ls' st) : G k n H pc ls (.int v :: st) := by
  subst hq; exact C.of K fun _ _ _ _ _ _ _ hx hby X s => XS.istore X hx rfl (hb hby hd) rfl hl s
theorem own_Wk.lstoreN (C : own_Wk Z n0 R y bytes maxL ret l Q G) {j : Fin 4} {v : Int64} (hd : decode bytes pc = .ok (.lstore_n j, 1)) (hl : storeLocals (Array.mk ls) j.val (.long v) = some (Array.mk ls')) (hq : pc + 1 = q) (K : G k n H q ls' st) : G k n H pc ls (.long v :: st) := by
  subst hq; exact C.of K fun _ _ _ _ _ _ _ hx hby X s => XS.lstoreN X hx rfl (hb hby hd) rfl hl s
theorem own_Wk.lstore (C : own_Wk Z n0 R y bytes maxL ret l Q G) {j : Nat} {v : Int64} (hd : decode bytes pc = .ok (.lstore j, 2)) (hl : storeLocals (Array.mk ls) j (.long v) = some (Array.mk ls')) (hq : pc + 2 = q) (K : G k n H q ls' st) : G k n H pc ls (.long v :: st) := by
  subst hq; exact C.of K fun _ _ _ _ _ _ _ hx hby X s => XS.lstore X hx rfl (hb hby hd) rfl hl s
theorem own_Wk.astoreN (C : own_Wk Z n0 R y bytes maxL ret l Q G) {j : Fin 4} {v : Value} (hd : decode bytes pc = .ok (.astore_n j, 1)) (hv : v.isRef = true) (hl : storeLocals (Array.mk ls) j.val v = some (Array.mk ls')) (hq : pc + 1 = q) (K : G k n H q ls' st) : G k n H pc ls (v :: st) := by
  subst hq; exact C.of K fun _ _ _ _ _ _ _ hx hby X s => XS.astoreN X hx rfl (hb hby hd) rfl hv hl s
theorem own_Wk.astore (C : own_Wk Z n0 R y bytes maxL ret l Q G) {j : Nat} {v : Value} (hd : decode bytes pc = .ok (.astore j, 2)) (hv : v.isRef = true) (hl : storeLocals (Array.mk ls) j v = some (Array.mk ls')) (hq : pc + 2 = q) (K : G k n H q ls' st) : G k n H pc ls (v :: st) := by
  subst hq; exact C.of K fun _ _ _ _ _ _ _ hx hby X s => XS.astore X hx rfl (hb hby hd) rfl hv hl s
theorem own_Wk.iconst (C : own_Wk Z n0 R y bytes maxL ret l Q G) {i : Int} {z : Int32} (hd : decode bytes pc = .ok (.iconst i, 1)) (hz : Int32.ofInt i = z) (hq : pc + 1 = q) (K : G k n H q ls (.int z :: st)) : G k n H pc ls st := by
  subst hq hz; exact C.of K fun _ _ _ _ _ _ _ hx hby X s => XS.iconst X hx rfl (hb hby hd) s
theorem own_Wk.bipush (C : own_Wk Z n0 R y bytes maxL ret l Q G) {i : Int} {z : Int32} (hd : decode bytes pc = .ok (.bipush i, 2)) (hz : (Int8.ofInt i).toInt32 = z) (hq : pc + 2 = q) (K : G k n H q ls (.int z :: st)) : G k n H pc ls st := by
  subst hq hz; exact C.of K fun _ _ _ _ _ _ _ hx hby X s => XS.bipush X hx rfl (hb hby hd) s
theorem own_Wk.sipush (C : own_Wk Z n0 R y bytes maxL ret l Q G) {i : Int} {z : Int32} (hd : decode bytes pc = .ok (.sipush i, 3)) (hz : (Int16.ofInt i).toInt32 = z) (hq : pc + 3 = q) (K : G k n H q ls (.int z :: st)) : G k n H pc ls st := by
  subst hq hz; exact C.of K fun _ _ _ _ _ _ _ hx hby X s => XS.sipush X hx rfl (hb hby hd) s
theorem own_Wk.lconst (C : own_Wk Z n0 R y bytes maxL ret l Q G) {i : Fin 2} {z : Int64} (hd : decode bytes pc = .ok (.lconst i, 1)) (hz : Int64.ofNat i = z) (hq : pc + 1 = q) (K : G k n H q ls (.long z :: st)) : G k n H pc ls st := by
  subst hq hz; exact C.of K fun _ _ _ _ _ _ _ hx hby X s => XS.lconst X hx rfl (hb hby hd) s
theorem own_Wk.aconstNull (C : own_Wk Z n0 R y bytes maxL ret l Q G) (hd : decode bytes pc = .ok (.aconst_null, 1)) (hq : pc + 1 = q) (K : G k n H q ls (.null :: st)) : G k n H pc ls st := by
  subst hq; exact C.of K fun _ _ _ _ _ _ _ hx hby X s => XS.aconstNull X hx rfl (hb hby hd) s
theorem own_Wk.iadd (C : own_Wk Z n0 R y bytes maxL ret l Q G) {a b : Int32} (hd : decode bytes pc = .ok (.iadd, 1)) (hq : pc + 1 = q) (K : G k n H q ls (.int (a + b) :: st)) : G k n H pc ls (.int b :: .int a :: st) := by
  subst hq; exact C.of K fun _ _ _ _ _ _ _ hx hby X s => XS.iadd X hx rfl (hb hby hd) rfl s
theorem own_Wk.isub (C : own_Wk Z n0 R y bytes maxL ret l Q G) {a b : Int32} (hd : decode bytes pc = .ok (.isub, 1)) (hq : pc + 1 = q) (K : G k n H q ls (.int (a - b) :: st)) : G k n H pc ls (.int b :: .int a :: st) := by
  subst hq; exact C.of K fun _ _ _ _ _ _ _ hx hby X s => XS.isub X hx rfl (hb hby hd) rfl s
theorem own_Wk.imul (C : own_Wk Z n0 R y bytes maxL ret l Q G) {a b : Int32} (hd : decode bytes pc = .ok (.imul, 1)) (hq : pc + 1 = q) (K : G k n H q ls (.int (a * b) :: st)) : G k n H pc ls (.int b :: .int a :: st) := by
  subst hq; exact C.of K fun _ _ _ _ _ _ _ hx hby X s => XS.imul X hx rfl (hb hby hd) rfl s
theorem own_Wk.iand (C : own_Wk Z n0 R y bytes maxL ret l Q G) {a b : Int32} (hd : decode bytes pc = .ok (.iand, 1)) (hq : pc + 1 = q) (K : G k n H q ls (.int (a &&& b) :: st)) : G k n H pc ls (.int b :: .int a :: st) := by
  subst hq; exact C.of K fun _ _ _ _ _ _ _ hx hby X s => XS.iand X hx rfl (hb hby hd) rfl s
theorem own_Wk.ior (C : own_Wk Z n0 R y bytes maxL ret l Q G) {a b : Int32} (hd : decode bytes pc = .ok (.ior, 1)) (hq : pc + 1 = q) (K : G k n H q ls (.int (a ||| b) :: st)) : G k n H pc ls (.int b :: .int a :: st) := by
  subst hq; exact C.of K fun _ _ _ _ _ _ _ hx hby X s => XS.ior X hx rfl (hb hby hd) rfl s
theorem own_Wk.ixor (C : own_Wk Z n0 R y bytes maxL ret l Q G) {a b : Int32} (hd : decode bytes pc = .ok (.ixor, 1)) (hq : pc + 1 = q) (K : G k n H q ls (.int (a ^^^ b) :: st)) : G k n H pc ls (.int b :: .int a :: st) := by
  subst hq; exact C.of K fun _ _ _ _ _ _ _ hx hby X s => XS.ixor X hx rfl (hb hby hd) rfl s
theorem own_Wk.ishl (C : own_Wk Z n0 R y bytes maxL ret l Q G) {a b : Int32} (hd : decode bytes pc = .ok (.ishl, 1)) (hq : pc + 1 = q) (K : G k n H q ls (.int (a <<< (b &&& 31)) :: st)) : G k n H pc ls (.int b :: .int a :: st) := by
  subst hq; exact C.of K fun _ _ _ _ _ _ _ hx hby X s => XS.ishl X hx rfl (hb hby hd) rfl s
theorem own_Wk.ishr (C : own_Wk Z n0 R y bytes maxL ret l Q G) {a b : Int32} (hd : decode bytes pc = .ok (.ishr, 1)) (hq : pc + 1 = q) (K : G k n H q ls (.int (a >>> (b &&& 31)) :: st)) : G k n H pc ls (.int b :: .int a :: st) := by
  subst hq; exact C.of K fun _ _ _ _ _ _ _ hx hby X s => XS.ishr X hx rfl (hb hby hd) rfl s
theorem own_Wk.iushr (C : own_Wk Z n0 R y bytes maxL ret l Q G) {a b : Int32} (hd : decode bytes pc = .ok (.iushr, 1)) (hq : pc + 1 = q) (K : G k n H q ls (.int ((a.toUInt32 >>> (b &&& 31).toUInt32).toInt32) :: st)) : G k n H pc ls (.int b :: .int a :: st) := by
  subst hq; exact C.of K fun _ _ _ _ _ _ _ hx hby X s => XS.iushr X hx rfl (hb hby hd) rfl s
theorem own_Wk.ladd (C : own_Wk Z n0 R y bytes maxL ret l Q G) {a b : Int64} (hd : decode bytes pc = .ok (.ladd, 1)) (hq : pc + 1 = q) (K : G k n H q ls (.long (a + b) :: st)) : G k n H pc ls (.long b :: .long a :: st) := by
  subst hq; exact C.of K fun _ _ _ _ _ _ _ hx hby X s => XS.ladd X hx rfl (hb hby hd) rfl s
theorem own_Wk.lsub (C : own_Wk Z n0 R y bytes maxL ret l Q G) {a b : Int64} (hd : decode bytes pc = .ok (.lsub, 1)) (hq : pc + 1 = q) (K : G k n H q ls (.long (a - b) :: st)) : G k n H pc ls (.long b :: .long a :: st) := by
  subst hq; exact C.of K fun _ _ _ _ _ _ _ hx hby X s => XS.lsub X hx rfl (hb hby hd) rfl s
theorem own_Wk.lmul (C : own_Wk Z n0 R y bytes maxL ret l Q G) {a b : Int64} (hd : decode bytes pc = .ok (.lmul, 1)) (hq : pc + 1 = q) (K : G k n H q ls (.long (a * b) :: st)) : G k n H pc ls (.long b :: .long a :: st) := by
  subst hq; exact C.of K fun _ _ _ _ _ _ _ hx hby X s => XS.lmul X hx rfl (hb hby hd) rfl s
theorem own_Wk.land (C : own_Wk Z n0 R y bytes maxL ret l Q G) {a b : Int64} (hd : decode bytes pc = .ok (.land, 1)) (hq : pc + 1 = q) (K : G k n H q ls (.long (a &&& b) :: st)) : G k n H pc ls (.long b :: .long a :: st) := by
  subst hq; exact C.of K fun _ _ _ _ _ _ _ hx hby X s => XS.land X hx rfl (hb hby hd) rfl s
theorem own_Wk.lor (C : own_Wk Z n0 R y bytes maxL ret l Q G) {a b : Int64} (hd : decode bytes pc = .ok (.lor, 1)) (hq : pc + 1 = q) (K : G k n H q ls (.long (a ||| b) :: st)) : G k n H pc ls (.long b :: .long a :: st) := by
  subst hq; exact C.of K fun _ _ _ _ _ _ _ hx hby X s => XS.lor X hx rfl (hb hby hd) rfl s
theorem own_Wk.lxor (C : own_Wk Z n0 R y bytes maxL ret l Q G) {a b : Int64} (hd : decode bytes pc = .ok (.lxor, 1)) (hq : pc + 1 = q) (K : G k n H q ls (.long (a ^^^ b) :: st)) : G k n H pc ls (.long b :: .long a :: st) := by
  subst hq; exact C.of K fun _ _ _ _ _ _ _ hx hby X s => XS.lxor X hx rfl (hb hby hd) rfl s
theorem own_Wk.lshl (C : own_Wk Z n0 R y bytes maxL ret l Q G) {a : Int64} {b : Int32} (hd : decode bytes pc = .ok (.lshl, 1)) (hq : pc + 1 = q) (K : G k n H q ls (.long (a <<< (b &&& 0x3f).toInt64) :: st)) : G k n H pc ls (.int b :: .long a :: st) := by
  subst hq; exact C.of K fun _ _ _ _ _ _ _ hx hby X s => XS.lshl X hx rfl (hb hby hd) rfl s
theorem own_Wk.lshr (C : own_Wk Z n0 R y bytes maxL ret l Q G) {a : Int64} {b : Int32} (hd : decode bytes pc = .ok (.lshr, 1)) (hq : pc + 1 = q) (K : G k n H q ls (.long (a >>> (b &&& 0x3f).toInt64) :: st)) : G k n H pc ls (.int b :: .long a :: st) := by
  subst hq; exact C.of K fun _ _ _ _ _ _ _ hx hby X s => XS.lshr X hx rfl (hb hby hd) rfl s
theorem own_Wk.lushr (C : own_Wk Z n0 R y bytes maxL ret l Q G) {a : Int64} {b : Int32} (hd : decode bytes pc = .ok (.lushr, 1)) (hq : pc + 1 = q) (K : G k n H q ls (.long ((a.toUInt64 >>> (b &&& 0x3f).toInt64.toUInt64).toInt64) :: st)) : G k n H pc ls (.int b :: .long a :: st) := by
  subst hq; exact C.of K fun _ _ _ _ _ _ _ hx hby X s => XS.lushr X hx rfl (hb hby hd) rfl s
theorem own_Wk.idiv (C : own_Wk Z n0 R y bytes maxL ret l Q G) {a b : Int32} (hd : decode bytes pc = .ok (.idiv, 1)) (hy : b ≠ 0) (hq : pc + 1 = q) (K : G k n H q ls (.int (a / b) :: st)) : G k n H pc ls (.int b :: .int a :: st) := by
  subst hq; exact C.of K fun _ _ _ _ _ _ _ hx hby X s => XS.idiv X hx rfl (hb hby hd) rfl hy s
theorem own_Wk.irem (C : own_Wk Z n0 R y bytes maxL ret l Q G) {a b : Int32} (hd : decode bytes pc = .ok (.irem, 1)) (hy : b ≠ 0) (hq : pc + 1 = q) (K : G k n H q ls (.int (a % b) :: st)) : G k n H pc ls (.int b :: .int a :: st) := by
  subst hq; exact C.of K fun _ _ _ _ _ _ _ hx hby X s => XS.irem X hx rfl (hb hby hd) rfl hy (by rw [show a - a / b * b = a % b from irem_eq_mod a b]; exact s)
theorem own_Wk.ldiv (C : own_Wk Z n0 R y bytes maxL ret l Q G) {a b : Int64} (hd : decode bytes pc = .ok (.ldiv, 1)) (hy : b ≠ 0) (hq : pc + 1 = q) (K : G k n H q ls (.long (a / b) :: st)) : G k n H pc ls (.long b :: .long a :: st) := by
  subst hq; exact C.of K fun _ _ _ _ _ _ _ hx hby X s => XS.ldiv X hx rfl (hb hby hd) rfl hy s
theorem own_Wk.lrem (C : own_Wk Z n0 R y bytes maxL ret l Q G) {a b : Int64} (hd : decode bytes pc = .ok (.lrem, 1)) (hy : b ≠ 0) (hq : pc + 1 = q) (K : G k n H q ls (.long (a % b) :: st)) : G k n H pc ls (.long b :: .long a :: st) := by
  subst hq; exact C.of K fun _ _ _ _ _ _ _ hx hby X s => XS.lrem X hx rfl (hb hby hd) rfl hy (by rw [show a - a / b * b = a % b from lrem_mod a b]; exact s)
theorem own_Wk.ineg (C : own_Wk Z n0 R y bytes maxL ret l Q G) {a : Int32} (hd : decode bytes pc = .ok (.ineg, 1)) (hq : pc + 1 = q) (K : G k n H q ls (.int (-a) :: st)) : G k n H pc ls (.int a :: st) := by
  subst hq; exact C.of K fun _ _ _ _ _ _ _ hx hby X s => XS.ineg X hx rfl (hb hby hd) rfl s
theorem own_Wk.lneg (C : own_Wk Z n0 R y bytes maxL ret l Q G) {a : Int64} (hd : decode bytes pc = .ok (.lneg, 1)) (hq : pc + 1 = q) (K : G k n H q ls (.long (-a) :: st)) : G k n H pc ls (.long a :: st) := by
  subst hq; exact C.of K fun _ _ _ _ _ _ _ hx hby X s => XS.lneg X hx rfl (hb hby hd) rfl s
theorem own_Wk.i2l (C : own_Wk Z n0 R y bytes maxL ret l Q G) {a : Int32} (hd : decode bytes pc = .ok (.i2l, 1)) (hq : pc + 1 = q) (K : G k n H q ls (.long (a.toInt64) :: st)) : G k n H pc ls (.int a :: st) := by
  subst hq; exact C.of K fun _ _ _ _ _ _ _ hx hby X s => XS.i2l X hx rfl (hb hby hd) rfl s
theorem own_Wk.l2i (C : own_Wk Z n0 R y bytes maxL ret l Q G) {a : Int64} (hd : decode bytes pc = .ok (.l2i, 1)) (hq : pc + 1 = q) (K : G k n H q ls (.int (a.toInt32) :: st)) : G k n H pc ls (.long a :: st) := by
  subst hq; exact C.of K fun _ _ _ _ _ _ _ hx hby X s => XS.l2i X hx rfl (hb hby hd) rfl s
theorem own_Wk.i2b (C : own_Wk Z n0 R y bytes maxL ret l Q G) {a : Int32} (hd : decode bytes pc = .ok (.i2b, 1)) (hq : pc + 1 = q) (K : G k n H q ls (.int (a.toInt8.toInt32) :: st)) : G k n H pc ls (.int a :: st) := by
  subst hq; exact C.of K fun _ _ _ _ _ _ _ hx hby X s => XS.i2b X hx rfl (hb hby hd) rfl s
theorem own_Wk.dup (C : own_Wk Z n0 R y bytes maxL ret l Q G) {v : Value} (hd : decode bytes pc = .ok (.dup, 1)) (hc : v.category = 1) (hq : pc + 1 = q) (K : G k n H q ls (v :: v :: st)) : G k n H pc ls (v :: st) := by
  subst hq; exact C.of K fun _ _ _ _ _ _ _ hx hby X s => XS.dup X hx rfl (hb hby hd) rfl hc s
theorem own_Wk.pop (C : own_Wk Z n0 R y bytes maxL ret l Q G) {v : Value} (hd : decode bytes pc = .ok (.pop, 1)) (hc : v.category = 1) (hq : pc + 1 = q) (K : G k n H q ls st) : G k n H pc ls (v :: st) := by
  subst hq; exact C.of K fun _ _ _ _ _ _ _ hx hby X s => XS.pop X hx rfl (hb hby hd) rfl hc s
theorem own_Wk.iinc (C : own_Wk Z n0 R y bytes maxL ret l Q G) {j : Nat} {i : Int} {v z : Int32} (hd : decode bytes pc = .ok (.iinc j i, 3)) (hl : (Array.mk ls)[j]? = some (.val (.int v))) (hz : Int32.ofInt i = z) (hl' : storeLocals (Array.mk ls) j (.int (v + z)) = some (Array.mk ls')) (hq : pc + 3 = q) (K : G k n H q ls' st) : G k n H pc ls st := by
  subst hq hz; exact C.of K fun _ _ _ _ _ _ _ hx hby X s => XS.iinc X hx rfl (hb hby hd) hl hl' s
theorem own_Wk.goto (C : own_Wk Z n0 R y bytes maxL ret l Q G) {o : Int} (hd : decode bytes pc = .ok (.goto o, 3)) (ho : 0 ≤ (pc : Int) + o) (hq : ((pc : Int) + o).toNat = q) (K : G k n H q ls st) : G k n H pc ls st := by
  exact C.of K fun _ _ _ _ _ _ _ hx hby X s => XS.goto X hx rfl rfl (hb hby hd) ho hq s
theorem own_Wk.icmpLt (C : own_Wk Z n0 R y bytes maxL ret l Q G) {a b : Int32} {o : Int} (hd : decode bytes pc = .ok (.if_icmp .lt o, 3)) (ho : 0 ≤ (pc : Int) + o) (hq : ((pc : Int) + o).toNat = q) (hq' : pc + 3 = q') (T : a < b → G k n H q ls st) (F : ¬ a < b → G k n H q' ls st) : G k n H pc ls (.int b :: .int a :: st) := by
  subst hq hq'
  by_cases h : a < b
  · exact C.of (T h) fun _ _ _ _ _ _ _ hx hby X s => XS.icmpYes X hx rfl rfl (hb hby hd) rfl (tlt h).1 ho rfl s
  · exact C.of (F h) fun _ _ _ _ _ _ _ hx hby X s => XS.icmpNo X hx rfl (hb hby hd) rfl (flt h).1 s
theorem own_Wk.ifLt (C : own_Wk Z n0 R y bytes maxL ret l Q G) {a : Int32} {o : Int} (hd : decode bytes pc = .ok (.ifCond .lt o, 3)) (ho : 0 ≤ (pc : Int) + o) (hq : ((pc : Int) + o).toNat = q) (hq' : pc + 3 = q') (T : a < 0 → G k n H q ls st) (F : ¬ a < 0 → G k n H q' ls st) : G k n H pc ls (.int a :: st) := by
  subst hq hq'
  by_cases h : a < 0
  · exact C.of (T h) fun _ _ _ _ _ _ _ hx hby X s => XS.ifYes X hx rfl rfl (hb hby hd) rfl ((if0 _ _).trans (tlt h).1) ho rfl s
  · exact C.of (F h) fun _ _ _ _ _ _ _ hx hby X s => XS.ifNo X hx rfl (hb hby hd) rfl ((if0 _ _).trans (flt h).1) s
theorem own_Wk.icmpGe (C : own_Wk Z n0 R y bytes maxL ret l Q G) {a b : Int32} {o : Int} (hd : decode bytes pc = .ok (.if_icmp .ge o, 3)) (ho : 0 ≤ (pc : Int) + o) (hq : ((pc : Int) + o).toNat = q) (hq' : pc + 3 = q') (T : a < b → G k n H q' ls st) (F : ¬ a < b → G k n H q ls st) : G k n H pc ls (.int b :: .int a :: st) := by
  subst hq hq'
  by_cases h : a < b
  · exact C.of (T h) fun _ _ _ _ _ _ _ hx hby X s => XS.icmpNo X hx rfl (hb hby hd) rfl (tlt h).2.1 s
  · exact C.of (F h) fun _ _ _ _ _ _ _ hx hby X s => XS.icmpYes X hx rfl rfl (hb hby hd) rfl (flt h).2.1 ho rfl s
theorem own_Wk.ifGe (C : own_Wk Z n0 R y bytes maxL ret l Q G) {a : Int32} {o : Int} (hd : decode bytes pc = .ok (.ifCond .ge o, 3)) (ho : 0 ≤ (pc : Int) + o) (hq : ((pc : Int) + o).toNat = q) (hq' : pc + 3 = q') (T : a < 0 → G k n H q' ls st) (F : ¬ a < 0 → G k n H q ls st) : G k n H pc ls (.int a :: st) := by
  subst hq hq'
  by_cases h : a < 0
  · exact C.of (T h) fun _ _ _ _ _ _ _ hx hby X s => XS.ifNo X hx rfl (hb hby hd) rfl ((if0 _ _).trans (tlt h).2.1) s
  · exact C.of (F h) fun _ _ _ _ _ _ _ hx hby X s => XS.ifYes X hx rfl rfl (hb hby hd) rfl ((if0 _ _).trans (flt h).2.1) ho rfl s
theorem own_Wk.icmpGt (C : own_Wk Z n0 R y bytes maxL ret l Q G) {a b : Int32} {o : Int} (hd : decode bytes pc = .ok (.if_icmp .gt o, 3)) (ho : 0 ≤ (pc : Int) + o) (hq : ((pc : Int) + o).toNat = q) (hq' : pc + 3 = q') (T : b < a → G k n H q ls st) (F : ¬ b < a → G k n H q' ls st) : G k n H pc ls (.int b :: .int a :: st) := by
  subst hq hq'
  by_cases h : b < a
  · exact C.of (T h) fun _ _ _ _ _ _ _ hx hby X s => XS.icmpYes X hx rfl rfl (hb hby hd) rfl (tlt h).2.2.1 ho rfl s
  · exact C.of (F h) fun _ _ _ _ _ _ _ hx hby X s => XS.icmpNo X hx rfl (hb hby hd) rfl (flt h).2.2.1 s
theorem own_Wk.ifGt (C : own_Wk Z n0 R y bytes maxL ret l Q G) {a : Int32} {o : Int} (hd : decode bytes pc = .ok (.ifCond .gt o, 3)) (ho : 0 ≤ (pc : Int) + o) (hq : ((pc : Int) + o).toNat = q) (hq' : pc + 3 = q') (T : 0 < a → G k n H q ls st) (F : ¬ 0 < a → G k n H q' ls st) : G k n H pc ls (.int a :: st) := by
  subst hq hq'
  by_cases h : 0 < a
  · exact C.of (T h) fun _ _ _ _ _ _ _ hx hby X s => XS.ifYes X hx rfl rfl (hb hby hd) rfl ((if0 _ _).trans (tlt h).2.2.1) ho rfl s
  · exact C.of (F h) fun _ _ _ _ _ _ _ hx hby X s => XS.ifNo X hx rfl (hb hby hd) rfl ((if0 _ _).trans (flt h).2.2.1) s
theorem own_Wk.icmpLe (C : own_Wk Z n0 R y bytes maxL ret l Q G) {a b : Int32} {o : Int} (hd : decode bytes pc = .ok (.if_icmp .le o, 3)) (ho : 0 ≤ (pc : Int) + o) (hq : ((pc : Int) + o).toNat = q) (hq' : pc + 3 = q') (T : b < a → G k n H q' ls st) (F : ¬ b < a → G k n H q ls st) : G k n H pc ls (.int b :: .int a :: st) := by
  subst hq hq'
  by_cases h : b < a
  · exact C.of (T h) fun _ _ _ _ _ _ _ hx hby X s => XS.icmpNo X hx rfl (hb hby hd) rfl (tlt h).2.2.2 s
  · exact C.of (F h) fun _ _ _ _ _ _ _ hx hby X s => XS.icmpYes X hx rfl rfl (hb hby hd) rfl (flt h).2.2.2 ho rfl s
theorem own_Wk.ifLe (C : own_Wk Z n0 R y bytes maxL ret l Q G) {a : Int32} {o : Int} (hd : decode bytes pc = .ok (.ifCond .le o, 3)) (ho : 0 ≤ (pc : Int) + o) (hq : ((pc : Int) + o).toNat = q) (hq' : pc + 3 = q') (T : 0 < a → G k n H q' ls st) (F : ¬ 0 < a → G k n H q ls st) : G k n H pc ls (.int a :: st) := by
  subst hq hq'
  by_cases h : 0 < a
  · exact C.of (T h) fun _ _ _ _ _ _ _ hx hby X s => XS.ifNo X hx rfl (hb hby hd) rfl ((if0 _ _).trans (tlt h).2.2.2) s
  · exact C.of (F h) fun _ _ _ _ _ _ _ hx hby X s => XS.ifYes X hx rfl rfl (hb hby hd) rfl ((if0 _ _).trans (flt h).2.2.2) ho rfl s
theorem own_Wk.icmpEq (C : own_Wk Z n0 R y bytes maxL ret l Q G) {a b : Int32} {o : Int} (hd : decode bytes pc = .ok (.if_icmp .eq o, 3)) (ho : 0 ≤ (pc : Int) + o) (hq : ((pc : Int) + o).toNat = q) (hq' : pc + 3 = q') (T : a = b → G k n H q ls st) (F : ¬ a = b → G k n H q' ls st) : G k n H pc ls (.int b :: .int a :: st) := by
  subst hq hq'
  by_cases h : a = b
  · exact C.of (T h) fun _ _ _ _ _ _ _ hx hby X s => XS.icmpYes X hx rfl rfl (hb hby hd) rfl (teq h).1 ho rfl s
  · exact C.of (F h) fun _ _ _ _ _ _ _ hx hby X s => XS.icmpNo X hx rfl (hb hby hd) rfl (feq h).1 s
theorem own_Wk.ifEq (C : own_Wk Z n0 R y bytes maxL ret l Q G) {a : Int32} {o : Int} (hd : decode bytes pc = .ok (.ifCond .eq o, 3)) (ho : 0 ≤ (pc : Int) + o) (hq : ((pc : Int) + o).toNat = q) (hq' : pc + 3 = q') (T : a = 0 → G k n H q ls st) (F : ¬ a = 0 → G k n H q' ls st) : G k n H pc ls (.int a :: st) := by
  subst hq hq'
  by_cases h : a = 0
  · exact C.of (T h) fun _ _ _ _ _ _ _ hx hby X s => XS.ifYes X hx rfl rfl (hb hby hd) rfl ((if0 _ _).trans (teq h).1) ho rfl s
  · exact C.of (F h) fun _ _ _ _ _ _ _ hx hby X s => XS.ifNo X hx rfl (hb hby hd) rfl ((if0 _ _).trans (feq h).1) s
theorem own_Wk.icmpNe (C : own_Wk Z n0 R y bytes maxL ret l Q G) {a b : Int32} {o : Int} (hd : decode bytes pc = .ok (.if_icmp .ne o, 3)) (ho : 0 ≤ (pc : Int) + o) (hq : ((pc : Int) + o).toNat = q) (hq' : pc + 3 = q') (T : a = b → G k n H q' ls st) (F : ¬ a = b → G k n H q ls st) : G k n H pc ls (.int b :: .int a :: st) := by
  subst hq hq'
  by_cases h : a = b
  · exact C.of (T h) fun _ _ _ _ _ _ _ hx hby X s => XS.icmpNo X hx rfl (hb hby hd) rfl (teq h).2 s
  · exact C.of (F h) fun _ _ _ _ _ _ _ hx hby X s => XS.icmpYes X hx rfl rfl (hb hby hd) rfl (feq h).2 ho rfl s
theorem own_Wk.ifNe (C : own_Wk Z n0 R y bytes maxL ret l Q G) {a : Int32} {o : Int} (hd : decode bytes pc = .ok (.ifCond .ne o, 3)) (ho : 0 ≤ (pc : Int) + o) (hq : ((pc : Int) + o).toNat = q) (hq' : pc + 3 = q') (T : a = 0 → G k n H q' ls st) (F : ¬ a = 0 → G k n H q ls st) : G k n H pc ls (.int a :: st) := by
  subst hq hq'
  by_cases h : a = 0
  · exact C.of (T h) fun _ _ _ _ _ _ _ hx hby X s => XS.ifNo X hx rfl (hb hby hd) rfl ((if0 _ _).trans (teq h).2) s
  · exact C.of (F h) fun _ _ _ _ _ _ _ hx hby X s => XS.ifYes X hx rfl rfl (hb hby hd) rfl ((if0 _ _).trans (feq h).2) ho rfl s
theorem own_Wk.lcmp0 (C : own_Wk Z n0 R y bytes maxL ret l Q G) {a b : Int64} (hd : decode bytes pc = .ok (.lcmp, 1)) (hq : pc + 1 = q) (K : G k n H q ls (.int (lcmpW a b) :: st)) : G k n H pc ls (.long b :: .long a :: st) := by
  subst hq; exact C.of K fun _ _ _ _ _ _ _ hx hby X s => XS.lcmp X hx rfl (hb hby hd) rfl s
theorem own_Wk.lcmpLt (C : own_Wk Z n0 R y bytes maxL ret l Q G) {a b : Int64} {o : Int} (hd : decode bytes pc = .ok (.lcmp, 1)) {q1 : Nat} (h1 : pc + 1 = q1) (hd1 : decode bytes q1 = .ok (.ifCond .lt o, 3)) (ho : 0 ≤ (q1 : Int) + o) (hq : ((q1 : Int) + o).toNat = q) (hq' : q1 + 3 = q') (T : a < b → G k n H q ls st) (F : ¬ a < b → G k n H q' ls st) : G k n H pc ls (.long b :: .long a :: st) :=
  C.lcmp0 hd h1 (C.ifLt hd1 ho hq hq' (fun h => T ((lw_lt a b).mp h)) (fun h => F fun h' => h ((lw_lt a b).mpr h')))
theorem own_Wk.lcmpGe (C : own_Wk Z n0 R y bytes maxL ret l Q G) {a b : Int64} {o : Int} (hd : decode bytes pc = .ok (.lcmp, 1)) {q1 : Nat} (h1 : pc + 1 = q1) (hd1 : decode bytes q1 = .ok (.ifCond .ge o, 3)) (ho : 0 ≤ (q1 : Int) + o) (hq : ((q1 : Int) + o).toNat = q) (hq' : q1 + 3 = q') (T : a < b → G k n H q' ls st) (F : ¬ a < b → G k n H q ls st) : G k n H pc ls (.long b :: .long a :: st) :=
  C.lcmp0 hd h1 (C.ifGe hd1 ho hq hq' (fun h => T ((lw_lt a b).mp h)) (fun h => F fun h' => h ((lw_lt a b).mpr h')))
theorem own_Wk.lcmpGt (C : own_Wk Z n0 R y bytes maxL ret l Q G) {a b : Int64} {o : Int} (hd : decode bytes pc = .ok (.lcmp, 1)) {q1 : Nat} (h1 : pc + 1 = q1) (hd1 : decode bytes q1 = .ok (.ifCond .gt o, 3)) (ho : 0 ≤ (q1 : Int) + o) (hq : ((q1 : Int) + o).toNat = q) (hq' : q1 + 3 = q') (T : b < a → G k n H q ls st) (F : ¬ b < a → G k n H q' ls st) : G k n H pc ls (.long b :: .long a :: st) :=
  C.lcmp0 hd h1 (C.ifGt hd1 ho hq hq' (fun h => T ((lw_gt a b).mp h)) (fun h => F fun h' => h ((lw_gt a b).mpr h')))
theorem own_Wk.lcmpLe (C : own_Wk Z n0 R y bytes maxL ret l Q G) {a b : Int64} {o : Int} (hd : decode bytes pc = .ok (.lcmp, 1)) {q1 : Nat} (h1 : pc + 1 = q1) (hd1 : decode bytes q1 = .ok (.ifCond .le o, 3)) (ho : 0 ≤ (q1 : Int) + o) (hq : ((q1 : Int) + o).toNat = q) (hq' : q1 + 3 = q') (T : b < a → G k n H q' ls st) (F : ¬ b < a → G k n H q ls st) : G k n H pc ls (.long b :: .long a :: st) :=
  C.lcmp0 hd h1 (C.ifLe hd1 ho hq hq' (fun h => T ((lw_gt a b).mp h)) (fun h => F fun h' => h ((lw_gt a b).mpr h')))
theorem own_Wk.lcmpEq (C : own_Wk Z n0 R y bytes maxL ret l Q G) {a b : Int64} {o : Int} (hd : decode bytes pc = .ok (.lcmp, 1)) {q1 : Nat} (h1 : pc + 1 = q1) (hd1 : decode bytes q1 = .ok (.ifCond .eq o, 3)) (ho : 0 ≤ (q1 : Int) + o) (hq : ((q1 : Int) + o).toNat = q) (hq' : q1 + 3 = q') (T : a = b → G k n H q ls st) (F : ¬ a = b → G k n H q' ls st) : G k n H pc ls (.long b :: .long a :: st) :=
  C.lcmp0 hd h1 (C.ifEq hd1 ho hq hq' (fun h => T ((lw_eq a b).mp h)) (fun h => F fun h' => h ((lw_eq a b).mpr h')))
theorem own_Wk.lcmpNe (C : own_Wk Z n0 R y bytes maxL ret l Q G) {a b : Int64} {o : Int} (hd : decode bytes pc = .ok (.lcmp, 1)) {q1 : Nat} (h1 : pc + 1 = q1) (hd1 : decode bytes q1 = .ok (.ifCond .ne o, 3)) (ho : 0 ≤ (q1 : Int) + o) (hq : ((q1 : Int) + o).toNat = q) (hq' : q1 + 3 = q') (T : a = b → G k n H q' ls st) (F : ¬ a = b → G k n H q ls st) : G k n H pc ls (.long b :: .long a :: st) :=
  C.lcmp0 hd h1 (C.ifNe hd1 ho hq hq' (fun h => T ((lw_eq a b).mp h)) (fun h => F fun h' => h ((lw_eq a b).mpr h')))
theorem own_Wk.nonnullY (C : own_Wk Z n0 R y bytes maxL ret l Q G) {b : Addr} {o : Int} (hd : decode bytes pc = .ok (.ifnonnull o, 3)) (ho : 0 ≤ (pc : Int) + o) (hq : ((pc : Int) + o).toNat = q) (K : G k n H q ls st) : G k n H pc ls (.ref b :: st) := by
  exact C.of K fun _ _ _ _ _ _ _ hx hby X s => XS.ifnonnullYes X hx rfl rfl (hb hby hd) rfl ho hq s
theorem own_Wk.nonnullN (C : own_Wk Z n0 R y bytes maxL ret l Q G) {o : Int} (hd : decode bytes pc = .ok (.ifnonnull o, 3)) (hq : pc + 3 = q) (K : G k n H q ls st) : G k n H pc ls (.null :: st) := by
  subst hq; exact C.of K fun _ _ _ _ _ _ _ hx hby X s => XS.ifnonnullNo X hx rfl (hb hby hd) rfl s
theorem own_Wk.ldc (C : own_Wk Z n0 R y bytes maxL ret l Q G) {i : Nat} {v : Int32} (hd : decode bytes pc = .ok (.ldc i, 2)) (w : (Jvm.Cond.constant y.cls i v).before a0 Z = true) (hq : pc + 2 = q) (K : G k n H q ls (.int v :: st)) : G k n H pc ls st := by
  subst hq
  obtain ⟨p, e, s, m, args, below, meth, c, rfl, hx, hZ, hby, hml, hown, hnm, hret, hlk⟩ := C
  intro T L X N hH
  obtain ⟨t, o, stp, P⟩ := K T L X N hH
  exact ⟨t, o, X.ldcInt hx hown (mvT hZ w) (g := mkF m pc ⟨ls⟩ st) rfl (hb hby hd) _ stp, P⟩
theorem own_Wk.ldc2 (C : own_Wk Z n0 R y bytes maxL ret l Q G) {i : Nat} {v : Int64} (hd : decode bytes pc = .ok (.ldc2_w i, 3)) (w : (Jvm.Cond.constantLong y.cls i v).before a0 Z = true) (hq : pc + 3 = q) (K : G k n H q ls (.long v :: st)) : G k n H pc ls st := by
  subst hq
  obtain ⟨p, e, s, m, args, below, meth, c, rfl, hx, hZ, hby, hml, hown, hnm, hret, hlk⟩ := C
  intro T L X N hH
  obtain ⟨t, o, stp, P⟩ := K T L X N hH
  exact ⟨t, o, X.ldc2Long hx hown (mvT hZ w) (g := mkF m pc ⟨ls⟩ st) rfl (hb hby hd) _ stp, P⟩
-- returns
theorem own_Wk.retI {z : Int32} (C : own_Wk Z n0 R y bytes maxL (some .int) l Q G) (hd : decode bytes pc = .ok (.ireturn, 1)) (hk : k ≤ R.cells) (hn : n ≤ R.slots) (hQ : Q (some (.int z)) H) : G k n H pc ls (.int z :: st) := by
  obtain ⟨p, e, s, m, args, below, meth, c, rfl, hx, hZ, hby, hml, hown, hnm, hret, hlk⟩ := C
  intro T L X N hH
  obtain ⟨fs, hr, hrun, hended, hW, hsame⟩ := X.leave (v := some (.int z)) (fun h => by rw [hret] at h; cases h) hlk
  exact ⟨_, _, retOut X hx hret rfl (Or.inl ⟨rfl, Or.inl rfl, z, rfl⟩) (hb hby hd) hr, hrun, hended, _, _, rfl, ⟨N, H, hH, hQ⟩, ⟨_, rfl⟩, hW, hsame.mono hk hn⟩
theorem own_Wk.retJ {z : Int64} (C : own_Wk Z n0 R y bytes maxL (some .long) l Q G) (hd : decode bytes pc = .ok (.lreturn, 1)) (hk : k ≤ R.cells) (hn : n ≤ R.slots) (hQ : Q (some (.long z)) H) : G k n H pc ls (.long z :: st) := by
  obtain ⟨p, e, s, m, args, below, meth, c, rfl, hx, hZ, hby, hml, hown, hnm, hret, hlk⟩ := C
  intro T L X N hH
  obtain ⟨fs, hr, hrun, hended, hW, hsame⟩ := X.leave (v := some (.long z)) (fun h => by rw [hret] at h; cases h) hlk
  exact ⟨_, _, retOut X hx hret rfl (Or.inr (Or.inl ⟨rfl, rfl, z, rfl⟩)) (hb hby hd) hr, hrun, hended, _, _, rfl, ⟨N, H, hH, hQ⟩, ⟨_, rfl⟩, hW, hsame.mono hk hn⟩
theorem own_Wk.retA {t : FieldType} {v : Value} (C : own_Wk Z n0 R y bytes maxL (some t) l Q G) (ht : t.isReference = true) (hn' : narrow t v = v) (hv : v.isRef = true) (hd : decode bytes pc = .ok (.areturn, 1)) (hk : k ≤ R.cells) (hn : n ≤ R.slots) (hQ : Q (some v) H) : G k n H pc ls (v :: st) := by
  obtain ⟨p, e, s, m, args, below, meth, c, rfl, hx, hZ, hby, hml, hown, hnm, hret, hlk⟩ := C
  intro T L X N hH
  obtain ⟨fs, hr, hrun, hended, hW, hsame⟩ := X.leave (v := some v) (fun h => by rw [hret] at h; cases h) hlk
  exact ⟨_, _, retOut X hx hret hn' (Or.inr (Or.inr (Or.inr (Or.inr ⟨rfl, ht, hv⟩)))) (hb hby hd) hr, hrun, hended, _, _, rfl, ⟨N, H, hH, hQ⟩, ⟨_, rfl⟩, hW, hsame.mono hk hn⟩
theorem own_Wk.retB {t : FieldType} {z : Int32} (C : own_Wk Z n0 R y bytes maxL (some t) l Q G) (ht : t = .boolean ∨ t = .byte ∨ t = .char ∨ t = .short) (hd : decode bytes pc = .ok (.ireturn, 1)) (hk : k ≤ R.cells) (hn : n ≤ R.slots) (hQ : Q (some (.int (nar t z))) H) : G k n H pc ls (.int z :: st) := by
  obtain ⟨p, e, s, m, args, below, meth, c, rfl, hx, hZ, hby, hml, hown, hnm, hret, hlk⟩ := C
  intro T L X N hH
  obtain ⟨fs, hr, hrun, hended, hW, hsame⟩ := X.leave (v := some (.int (nar t z))) (fun h => by rw [hret] at h; cases h) hlk
  exact ⟨_, _, retN X hx hret ht (hb hby hd) hr, hrun, hended, _, _, rfl, ⟨N, H, hH, hQ⟩, ⟨_, rfl⟩, hW, hsame.mono hk hn⟩
theorem own_Wk.retV (C : own_Wk Z n0 R y bytes maxL none l Q G) (hd : decode bytes pc = .ok (.return_, 1)) (hk : k ≤ R.cells) (hn : n ≤ R.slots) (hQ : Q none H) : G k n H pc ls [] := by
  obtain ⟨p, e, s, m, args, below, meth, c, rfl, hx, hZ, hby, hml, hown, hnm, hret, hlk⟩ := C
  intro T L X N hH
  obtain ⟨fs, hr, hrun, hended, hW, hsame⟩ := X.leave (v := none) (fun _ => rfl) hlk
  exact ⟨_, _, X.returnOut hx hret (hb hby hd) hr, hrun, hended, _, _, rfl, ⟨N, H, hH, hQ⟩, ⟨_, rfl⟩, hW, hsame.mono hk hn⟩
-- the abstract heap
theorem own_is_ext {h h' : Heap} {a : Addr} {o : own_Ob} (E : Ext h h') (F : own_is Z h a o) : own_is Z h' a o := by
  match o, F with
  | .inl q, F => obtain ⟨c, A, r⟩ := F; exact ⟨c, A.ext E, r⟩
  | .inr q, F => exact ⟨F.1.ext E, F.2.1, fun i f hf => (F.2.2 i f hf).ext E⟩
theorem own_is_ne {h h' : Heap} {a b : Addr} {sl : Nat} {v : Value} {o : own_Ob} (W : Wr h h' a sl v) (hne : b ≠ a) (F : own_is Z h b o) : own_is Z h' b o := by
  match o, F with
  | .inl q, F => obtain ⟨c, A, r⟩ := F; exact ⟨c, A.other W hne, r⟩
  | .inr q, F => exact ⟨F.1.wr W, F.2.1, fun i f hf => (F.2.2 i f hf).other W (Or.inl hne)⟩
theorem own_Hp_new {h h' : Heap} {o : own_Ob} (P : own_Hp Z n0 h H) (E : Ext h h') (hlt : h.size < h'.size) (F : own_is Z h' h.size o) : own_Hp Z n0 h' (H ++ [(h.size, o)]) := by
  obtain ⟨p1, p2, p3⟩ := P
  have key : ∀ (i : Nat) (a : Addr) (o' : own_Ob), (H ++ [(h.size, o)])[i]? = some (a, o') → (H[i]? = some (a, o') ∧ i < H.length) ∨ (i = H.length ∧ a = h.size ∧ o' = o) := by
    intro i a o' hi
    by_cases q : i < H.length
    · rw [List.getElem?_append_left q] at hi; exact Or.inl ⟨hi, q⟩
    · rw [List.getElem?_append_right (by omega)] at hi
      obtain ⟨j, hj⟩ : ∃ j, j = i - H.length := ⟨_, rfl⟩
      rw [← hj] at hi
      match j, hj, hi with
      | 0, hj, hi => exact Or.inr ⟨by omega, by simpa using (Prod.mk.inj (Option.some.inj hi)).1.symm, by simpa using (Prod.mk.inj (Option.some.inj hi)).2.symm⟩
      | j + 1, _, hi => simp at hi
  refine ⟨Nat.le_trans p1 E.1, fun i j a o1 o2 hi hj => ?_, fun i a o' hi => ?_⟩
  · rcases key i a o1 hi with ⟨h1, l1⟩ | ⟨h1, h2, -⟩ <;> rcases key j a o2 hj with ⟨g1, l2⟩ | ⟨g1, g2, -⟩
    · exact p2 i j a o1 o2 h1 g1
    · exact absurd (p3 i a o1 h1).2.1 (by rw [g2]; exact Nat.lt_irrefl _)
    · exact absurd (p3 j a o2 g1).2.1 (by rw [h2]; exact Nat.lt_irrefl _)
    · rw [h1, g1]
  · rcases key i a o' hi with ⟨h1, -⟩ | ⟨-, rfl, rfl⟩
    · obtain ⟨r1, r2, r3⟩ := p3 i a o' h1
      exact ⟨r1, Nat.lt_of_lt_of_le r2 E.1, own_is_ext E r3⟩
    · exact ⟨p1, hlt, F⟩
theorem own_Hp_set {h h' : Heap} {i : Nat} {a : Addr} {o o' : own_Ob} {sl : Nat} {v : Value} (P : own_Hp Z n0 h H) (hi : H[i]? = some (a, o)) (W : Wr h h' a sl v) (F : own_is Z h' a o') : own_Hp Z n0 h' (H.set i (a, o')) := by
  obtain ⟨p1, p2, p3⟩ := P
  have key : ∀ (j : Nat) (b : Addr) (ob : own_Ob), (H.set i (a, o'))[j]? = some (b, ob) → (j = i ∧ b = a ∧ ob = o') ∨ (j ≠ i ∧ H[j]? = some (b, ob)) := by
    intro j b ob hj
    rw [List.getElem?_set] at hj
    by_cases q : i = j
    · subst q
      rw [if_pos rfl] at hj
      split at hj
      · exact Or.inl ⟨rfl, (Prod.mk.inj (Option.some.inj hj)).1.symm, (Prod.mk.inj (Option.some.inj hj)).2.symm⟩
      · cases hj
    · rw [if_neg q] at hj; exact Or.inr ⟨fun z => q z.symm, hj⟩
  refine ⟨by rw [W.size]; exact p1, fun j j' b o1 o2 hj hj' => ?_, fun j b ob hj => ?_⟩
  · rcases key j b o1 hj with ⟨h1, h2, -⟩ | ⟨h1, h2⟩ <;> rcases key j' b o2 hj' with ⟨g1, g2, -⟩ | ⟨g1, g2⟩
    · rw [h1, g1]
    · subst h2; rw [h1]; exact p2 i j' _ o o2 hi g2
    · subst g2; rw [g1]; exact (p2 i j _ o o1 hi h2).symm
    · exact p2 j j' b o1 o2 h2 g2
  · rw [W.size]
    rcases key j b ob hj with ⟨-, rfl, rfl⟩ | ⟨h1, h2⟩
    · obtain ⟨r1, r2, -⟩ := p3 i _ _ hi; exact ⟨r1, r2, F⟩
    · obtain ⟨r1, r2, r3⟩ := p3 j b ob h2
      exact ⟨r1, r2, own_is_ne W (fun z => h1 (by subst z; exact (p2 i j _ o ob hi h2).symm)) r3⟩
-- arrays
theorem own_Wk.alen (C : own_Wk Z n0 R y bytes maxL ret l Q G) (i : Nat) {a : Addr} {ty : FieldType} {vs : List Value} {z : Int32} (hd : decode bytes pc = .ok (.arraylength, 1)) (hi : H[i]? = some (a, .inl (ty, vs))) (hz : vs.length.toInt32 = z) (hq : pc + 1 = q) (K : G k n H q ls (.int z :: st)) : G k n H pc ls (.ref a :: st) := by
  subst hq hz
  obtain ⟨p, e, s, m, args, below, meth, c, rfl, hx, hZ, hby, hml, hown, hnm, hret, hlk⟩ := C
  intro T L X N hH
  obtain ⟨-, -, cl, A, hc, hcI⟩ := hH.2.2 i _ _ hi
  obtain ⟨t, o, stp, P⟩ := K T L X N hH
  have hc' : cl.slots.toList = vs := hc
  refine ⟨t, o, X.arraylength hx (cell := cl) A.1 (State.isArrayOf_alike hZ.alike A.2.1) (g := mkF m pc ⟨ls⟩ (.ref a :: st)) rfl rfl (hb hby hd) _ ?_, P⟩
  rw [show cl.slots.size = vs.length by rw [← hc', Array.length_toList]]
  exact stp
theorem own_at {cl : Cell} {vs : List Value} {j : Int32} {v : Value} (hc : cl.slots.toList = vs) (h0 : ¬ j < 0) (hv : vs[j.toNatClampNeg]? = some v) : ¬ (j < 0 ∨ cl.slots.size ≤ j.toNatClampNeg) ∧ cl.slots[j.toNatClampNeg]? = some v := by
  rw [← hc, Array.getElem?_toList] at hv
  exact ⟨fun z => z.elim h0 fun z => by have := (Array.getElem?_eq_some_iff.mp hv).1; omega, hv⟩
theorem own_in {cl : Cell} {vs : List Value} {j : Int32} (hc : cl.slots.toList = vs) (h0 : ¬ j < 0) (hj : j.toNatClampNeg < vs.length) : ¬ (j < 0 ∨ cl.slots.size ≤ j.toNatClampNeg) :=
  fun z => z.elim h0 fun z => by rw [← hc, Array.length_toList] at hj; omega
theorem own_Wk.iaload (C : own_Wk Z n0 R y bytes maxL ret l Q G) (i : Nat) {a : Addr} {vs : List Value} {j : Int32} {v : Value} (hd : decode bytes pc = .ok (.iaload, 1)) (hi : H[i]? = some (a, .inl (.int, vs))) (h0 : ¬ j < 0) (hv : vs[j.toNatClampNeg]? = some v) (hq : pc + 1 = q) (K : G k n H q ls (v :: st)) : G k n H pc ls (.int j :: .ref a :: st) := by
  subst hq
  obtain ⟨p, e, s, m, args, below, meth, c, rfl, hx, hZ, hby, hml, hown, hnm, hret, hlk⟩ := C
  intro T L X N hH
  obtain ⟨-, -, cl, A, hc, hcI⟩ := hH.2.2 i _ _ hi
  obtain ⟨t, o, stp, P⟩ := K T L X N hH
  have q2 := own_at hc h0 hv
  exact ⟨t, o, X.iaload hx (j := j) (v := v) A.1 (State.isArrayOf_alike hZ.alike A.2.1) A.2.2 q2.1 q2.2 (g := mkF m pc ⟨ls⟩ (.int j :: .ref a :: st)) rfl rfl (hb hby hd) _ stp, P⟩
theorem own_Wk.laload (C : own_Wk Z n0 R y bytes maxL ret l Q G) (i : Nat) {a : Addr} {vs : List Value} {j : Int32} {v : Value} (hd : decode bytes pc = .ok (.laload, 1)) (hi : H[i]? = some (a, .inl (.long, vs))) (h0 : ¬ j < 0) (hv : vs[j.toNatClampNeg]? = some v) (hq : pc + 1 = q) (K : G k n H q ls (v :: st)) : G k n H pc ls (.int j :: .ref a :: st) := by
  subst hq
  obtain ⟨p, e, s, m, args, below, meth, c, rfl, hx, hZ, hby, hml, hown, hnm, hret, hlk⟩ := C
  intro T L X N hH
  obtain ⟨-, -, cl, A, hc, hcI⟩ := hH.2.2 i _ _ hi
  obtain ⟨t, o, stp, P⟩ := K T L X N hH
  have q2 := own_at hc h0 hv
  exact ⟨t, o, X.laload hx (j := j) (v := v) A.1 (State.isArrayOf_alike hZ.alike A.2.1) A.2.2 q2.1 q2.2 (g := mkF m pc ⟨ls⟩ (.int j :: .ref a :: st)) rfl rfl (hb hby hd) _ stp, P⟩
theorem own_Wk.baload (C : own_Wk Z n0 R y bytes maxL ret l Q G) (i : Nat) {a : Addr} {vs : List Value} {j : Int32} {v : Value} (hd : decode bytes pc = .ok (.baload, 1)) (hi : H[i]? = some (a, .inl (.byte, vs))) (h0 : ¬ j < 0) (hv : vs[j.toNatClampNeg]? = some v) (hq : pc + 1 = q) (K : G k n H q ls (v :: st)) : G k n H pc ls (.int j :: .ref a :: st) := by
  subst hq
  obtain ⟨p, e, s, m, args, below, meth, c, rfl, hx, hZ, hby, hml, hown, hnm, hret, hlk⟩ := C
  intro T L X N hH
  obtain ⟨-, -, cl, A, hc, hcI⟩ := hH.2.2 i _ _ hi
  obtain ⟨t, o, stp, P⟩ := K T L X N hH
  have q2 := own_at hc h0 hv
  exact ⟨t, o, X.baloadBytes hx (j := j) (v := v) A.1 (State.isArrayOf_alike hZ.alike A.2.1) A.2.2 q2.1 q2.2 (g := mkF m pc ⟨ls⟩ (.int j :: .ref a :: st)) rfl rfl (hb hby hd) _ stp, P⟩
theorem own_arr_set {h h' : Heap} {a : Addr} {cl : Cell} {ty : FieldType} {vs : List Value} {j : Nat} {v : Value} (A : Arr Z h a cl ty) (hc : cl.slots.toList = vs) (hcI : ty = .int → Z.vm.findClass "[I" = some cl.cls) (W : Wr h h' a j v) : own_is Z h' a (.inl (ty, vs.set j v)) := by
  refine ⟨cl.setSlot j v, A.same W, ?_, hcI⟩
  show (cl.slots.setIfInBounds j v).toList = vs.set j v
  rw [Array.toList_setIfInBounds, hc]
theorem own_Wk.iastore (C : own_Wk Z n0 R y bytes maxL ret l Q G) (i : Nat) {a : Addr} {vs : List Value} {j x : Int32} {H' : own_Hs} (hd : decode bytes pc = .ok (.iastore, 1)) (hi : H[i]? = some (a, .inl (.int, vs))) (h0 : ¬ j < 0) (hj : j.toNatClampNeg < vs.length) (hH' : H.set i (a, .inl (.int, vs.set j.toNatClampNeg (.int x))) = H') (hq : pc + 1 = q) (K : G k n H' q ls st) : G k n H pc ls (.int x :: .int j :: .ref a :: st) := by
  subst hq hH'
  obtain ⟨p, e, s, m, args, below, meth, c, rfl, hx, hZ, hby, hml, hown, hnm, hret, hlk⟩ := C
  intro T L X N hH
  obtain ⟨g1, -, cl, A, hc, hcI⟩ := hH.2.2 i _ _ hi
  obtain ⟨T', h', X', e', W, stp⟩ := stI X hx hZ rfl A (own_in hc h0 hj) (g := mkF m pc ⟨ls⟩ (.int x :: .int j :: .ref a :: st)) rfl rfl (hb hby hd)
  obtain ⟨t, o, st2, P⟩ := K T' _ X' (Fr.snoc X' N g1) (by rw [e']; exact own_Hp_set hH hi W (own_arr_set A hc hcI W))
  exact ⟨t, o, stp _ st2, P⟩
theorem own_Wk.lastore (C : own_Wk Z n0 R y bytes maxL ret l Q G) (i : Nat) {a : Addr} {vs : List Value} {j : Int32} {x : Int64} {H' : own_Hs} (hd : decode bytes pc = .ok (.lastore, 1)) (hi : H[i]? = some (a, .inl (.long, vs))) (h0 : ¬ j < 0) (hj : j.toNatClampNeg < vs.length) (hH' : H.set i (a, .inl (.long, vs.set j.toNatClampNeg (.long x))) = H') (hq : pc + 1 = q) (K : G k n H' q ls st) : G k n H pc ls (.long x :: .int j :: .ref a :: st) := by
  subst hq hH'
  obtain ⟨p, e, s, m, args, below, meth, c, rfl, hx, hZ, hby, hml, hown, hnm, hret, hlk⟩ := C
  intro T L X N hH
  obtain ⟨g1, -, cl, A, hc, hcI⟩ := hH.2.2 i _ _ hi
  obtain ⟨T', h', X', e', W, stp⟩ := stJ X hx hZ rfl A (own_in hc h0 hj) (g := mkF m pc ⟨ls⟩ (.long x :: .int j :: .ref a :: st)) rfl rfl (hb hby hd)
  obtain ⟨t, o, st2, P⟩ := K T' _ X' (Fr.snoc X' N g1) (by rw [e']; exact own_Hp_set hH hi W (own_arr_set A hc hcI W))
  exact ⟨t, o, stp _ st2, P⟩
theorem own_Wk.bastore (C : own_Wk Z n0 R y bytes maxL ret l Q G) (i : Nat) {a : Addr} {vs : List Value} {j x : Int32} {H' : own_Hs} (hd : decode bytes pc = .ok (.bastore, 1)) (hi : H[i]? = some (a, .inl (.byte, vs))) (h0 : ¬ j < 0) (hj : j.toNatClampNeg < vs.length) (hH' : H.set i (a, .inl (.byte, vs.set j.toNatClampNeg (.int (nar .byte x)))) = H') (hq : pc + 1 = q) (K : G k n H' q ls st) : G k n H pc ls (.int x :: .int j :: .ref a :: st) := by
  subst hq hH'
  obtain ⟨p, e, s, m, args, below, meth, c, rfl, hx, hZ, hby, hml, hown, hnm, hret, hlk⟩ := C
  intro T L X N hH
  obtain ⟨g1, -, cl, A, hc, hcI⟩ := hH.2.2 i _ _ hi
  obtain ⟨T', h', X', e', W, stp⟩ := stB X hx hZ rfl A (own_in hc h0 hj) (g := mkF m pc ⟨ls⟩ (.int x :: .int j :: .ref a :: st)) rfl rfl (hb hby hd)
  obtain ⟨t, o, st2, P⟩ := K T' _ X' (Fr.snoc X' N g1) (by rw [e']; exact own_Hp_set hH hi W (own_arr_set A hc hcI W))
  exact ⟨t, o, stp _ st2, P⟩
theorem own_Wk.newarr (C : own_Wk Z n0 R y bytes maxL ret l Q G) (cap : Nat) {aty : ArrayType} {z : Int32} {ty : FieldType} {vs : List Value} {k' n' : Nat} (hd : decode bytes pc = .ok (.newarray aty, 2)) (w : (Jvm.Cond.arrayClass (newarray.typeOf aty)).before a0 Z = true) (hz : ¬ z < 0) (hcap : z.toNatClampNeg ≤ cap) (hb8 : cap * 8 ≤ 536870912) (hc : k + 1 ≤ R.cells) (hl : n + cap ≤ R.slots)
    (hty : newarray.typeOf aty = ty) (hvs : List.replicate z.toNatClampNeg (defaultValue ty) = vs) (hk' : k + 1 = k') (hn' : n + cap = n') (hq : pc + 2 = q) (K : ∀ a, G k' n' (H ++ [(a, .inl (ty, vs))]) q ls (.ref a :: st)) : G k n H pc ls (.int z :: st) := by
  subst hq hvs hty hk' hn'
  obtain ⟨p, e, s, m, args, below, meth, c, rfl, hx, hZ, hby, hml, hown, hnm, hret, hlk⟩ := C
  intro T L X N hH
  have c8 : z.toNatClampNeg * componentBytes (newarray.typeOf aty) ≤ 536870912 := Nat.le_trans (Nat.mul_le_mul hcap (by cases aty <;> decide : componentBytes (newarray.typeOf aty) ≤ 8)) hb8
  obtain ⟨cA, kA, comp, f1, -, -, X', stp⟩ := X.newarrayPrim hx (mvA hZ w) (g := mkF m pc ⟨ls⟩ (.int z :: st)) rfl (hb hby hd) rfl hz c8 hc (by omega)
  obtain ⟨cZ, kZ, cp, g1, g2, g3⟩ := Jvm.Cond.arrayClass_spec w
  rw [hZ.alike.findClass] at f1
  cases f1.symm.trans g1
  have hN : (T.heap.push (newA cA (newarray.typeOf aty) z))[T.heap.size]? = some (newA cA (newarray.typeOf aty) z) := by simp
  have A : Arr Z (T.heap.push (newA cA (newarray.typeOf aty) z)) T.heap.size (newA cA (newarray.typeOf aty) z) (newarray.typeOf aty) := ⟨hN, ⟨by simp [newA], kZ, g2, cp, g3⟩, by simp [newA]⟩
  obtain ⟨t, o, st2, P⟩ := K T.heap.size _ _ (X'.more (Nat.le_refl _) (by omega)) N (by
    refine own_Hp_new hH (ext_of fun a q => ?_) A.lt ⟨_, A, ?_, fun q => ?_⟩
    · exact (Array.getElem?_push_lt q).trans (Array.getElem?_eq_getElem q).symm
    · show (newA cA (newarray.typeOf aty) z).slots.toList = _
      simp only [newA, Array.toList_replicate]
    · have q' : newarray.typeOf aty = .int := q
      rw [q'] at f1
      exact f1)
  exact ⟨t, o, stp _ st2, P⟩
-- objects
def own_Laid (Z : State) (a0 : Array Value) (Cn : String) : List (String × String × FieldType) → Prop
  | [] => True
  | d :: r => (Laid Z a0 Cn Cn d.1 d.2.1 ∧ parseFieldDescriptor d.2.1 = some d.2.2) ∧ own_Laid Z a0 Cn r
theorem own_Laid.at {Cn : String} : ∀ {ds : List (String × String × FieldType)} {i : Nat} {d : String × String × FieldType}, own_Laid Z a0 Cn ds → ds[i]? = some d → Laid Z a0 Cn Cn d.1 d.2.1 ∧ parseFieldDescriptor d.2.1 = some d.2.2
  | [], _, _, _, h => by simp at h
  | d0 :: r, 0, d, L, h => by cases Option.some.inj h; exact L.1
  | d0 :: r, i + 1, d, L, h => own_Laid.at L.2 (by simpa using h)
def own_diff : List String → Bool
  | [] => true
  | x :: r => (r.all fun z => z != x) && own_diff r
theorem own_diff.inj : ∀ {xs : List String} {i j : Nat} {s : String}, own_diff xs = true → xs[i]? = some s → xs[j]? = some s → i = j
  | [], _, _, _, _, h, _ => by simp at h
  | x :: r, 0, 0, _, _, _, _ => rfl
  | x :: r, 0, j + 1, s, D, h, g => by
    simp only [own_diff, Bool.and_eq_true, List.all_eq_true, bne_iff_ne] at D
    cases Option.some.inj h
    exact absurd rfl (D.1 _ (List.mem_of_getElem? (by simpa using g)))
  | x :: r, i + 1, 0, s, D, h, g => by
    simp only [own_diff, Bool.and_eq_true, List.all_eq_true, bne_iff_ne] at D
    cases Option.some.inj g
    exact absurd rfl (D.1 _ (List.mem_of_getElem? (by simpa using h)))
  | x :: r, i + 1, j + 1, s, D, h, g => by
    simp only [own_diff, Bool.and_eq_true] at D
    exact congrArg (· + 1) (own_diff.inj (s := s) D.2 (by simpa using h) (by simpa using g))
theorem own_Wk.newobj (C : own_Wk Z n0 R y bytes maxL ret l Q G) (ds : List (String × String × FieldType)) {Cn : String} {ix nn k' n' : Nat} {fs : List (String × String × Value)} (hd : decode bytes pc = .ok (.new ix, 3)) (w1 : (Jvm.Cond.classLink y.cls ix Cn).before a0 Z = true) (w2 : (Jvm.Cond.instantiable Cn nn).before a0 Z = true) (w3 : (Jvm.Cond.initialized Cn).before a0 Z = true)
    (hL : own_Laid Z a0 Cn ds) (hdf : own_diff (ds.map fun d => d.1) = true) (hc : k + 1 ≤ R.cells) (hl : n + nn ≤ R.slots) (hfs : ds.map (fun d => (d.1, d.2.1, defaultValue d.2.2)) = fs) (hk' : k + 1 = k') (hn' : n + nn = n') (hq : pc + 3 = q)
    (K : ∀ a, G k' n' (H ++ [(a, .inr (Cn, fs))]) q ls (.ref a :: st)) : G k n H pc ls st := by
  subst hq hfs hk' hn'
  obtain ⟨p, e, s, m, args, below, meth, c, rfl, hx, hZ, hby, hml, hown, hnm, hret, hlk⟩ := C
  intro T L X N hH
  obtain ⟨T', h', X', e', E, A, D, -, stp⟩ := newO X hx hZ hown w1 w2 w3 rfl (g := mkF m pc ⟨ls⟩ st) rfl (hb hby hd) hc hl
  have at_ : ∀ (i : Nat) (f : String × String × Value), (ds.map (fun d => (d.1, d.2.1, defaultValue d.2.2)))[i]? = some f → ∃ d : String × String × FieldType, ds[i]? = some d ∧ f = (d.1, d.2.1, defaultValue d.2.2) := by
    intro i f hf
    rw [List.getElem?_map] at hf
    obtain ⟨d, h1, h2⟩ := Option.map_eq_some_iff.mp hf
    exact ⟨d, h1, h2.symm⟩
  obtain ⟨t, o, st2, P⟩ := K T.heap.size T' _ X' N (by
    rw [e']
    refine own_Hp_new hH E A.lt ⟨A, fun i j f g hf hg hs => ?_, fun i f hf => ?_⟩
    · obtain ⟨d, h1, rfl⟩ := at_ i f hf
      obtain ⟨d', h1', rfl⟩ := at_ j g hg
      by_cases hn : d.1 = d'.1
      · exact own_diff.inj hdf (s := d.1) (by rw [List.getElem?_map, h1]; rfl) (by rw [List.getElem?_map, h1', hn]; rfl)
      · exact absurd hs (slot_ne (hL.at h1).1 (hL.at h1').1 hn (hL.at h1).2 (hL.at h1').2)
    · obtain ⟨d, h1, rfl⟩ := at_ i f hf
      exact D (hL.at h1).1 (hL.at h1).2)
  exact ⟨t, o, stp _ st2, P⟩
theorem own_Wk.getf (C : own_Wk Z n0 R y bytes maxL ret l Q G) (i j : Nat) {ix : Nat} {Cn nm ds : String} {a : Addr} {fs : List (String × String × Value)} {v : Value} (hd : decode bytes pc = .ok (.getfield ix, 3)) (w : (Jvm.Cond.fieldLink y.cls ix Cn nm ds).before a0 Z = true)
    (hi : H[i]? = some (a, .inr (Cn, fs))) (hj : fs[j]? = some (nm, ds, v)) (hq : pc + 3 = q) (K : G k n H q ls (v :: st)) : G k n H pc ls (.ref a :: st) := by
  subst hq
  obtain ⟨p, e, s, m, args, below, meth, c, rfl, hx, hZ, hby, hml, hown, hnm, hret, hlk⟩ := C
  intro T L X N hH
  obtain ⟨-, -, hE, hS, hF⟩ := hH.2.2 i _ _ hi
  obtain ⟨T', X', e', stp⟩ := getF X hx hZ hown (host := "") (Or.inl w) Via.refl rfl (hF j _ hj) (g := mkF m pc ⟨ls⟩ (.ref a :: st)) rfl rfl (hb hby hd)
  obtain ⟨t, o, st2, P⟩ := K T' _ X' N (by rw [e']; exact hH)
  exact ⟨t, o, stp _ st2, P⟩
theorem own_Wk.putf (C : own_Wk Z n0 R y bytes maxL ret l Q G) (i j : Nat) {ix kk : Nat} {Cn nm ds : String} {a : Addr} {fs : List (String × String × Value)} {v old : Value} {ty : FieldType} {H' : own_Hs} (hd : decode bytes pc = .ok (.putfield ix, 3)) (w : (Jvm.Cond.fieldLink y.cls ix Cn nm ds).before a0 Z = true)
    (hL : (Jvm.Cond.lays Cn Cn nm ds).before a0 Z = true ∨ ((Jvm.Cond.laysFinal Cn Cn nm ds).before a0 Z = true ∧ y.cls = Cn ∧ y.name = "<init>")) (wi : (Jvm.Cond.instantiable Cn kk).before a0 Z = true)
    (hi : H[i]? = some (a, .inr (Cn, fs))) (hj : fs[j]? = some (nm, ds, old)) (hty : parseFieldDescriptor ds = some ty) (hn' : narrow ty v = v) (hf : fits ty v = true) (hH' : H.set i (a, .inr (Cn, fs.set j (nm, ds, v))) = H') (hq : pc + 3 = q) (K : G k n H' q ls st) : G k n H pc ls (v :: .ref a :: st) := by
  subst hq hH'
  obtain ⟨p, e, s, m, args, below, meth, c, rfl, hx, hZ, hby, hml, hown, hnm, hret, hlk⟩ := C
  intro T L X N hH
  obtain ⟨g1, -, hE, hS, hF⟩ := hH.2.2 i _ _ hi
  obtain ⟨T', h', X', e', W, stp⟩ := putF X hx hZ hown (host := "") (Or.inl w) Via.refl rfl (hF j _ hj) hE (hL.imp id fun z => ⟨z.1, z.2.1, hnm.trans z.2.2⟩) wi hty hn' hf (g := mkF m pc ⟨ls⟩ (v :: .ref a :: st)) rfl rfl (hb hby hd)
  have key : ∀ (i' : Nat) (f : String × String × Value), (fs.set j (nm, ds, v))[i']? = some f → (i' = j ∧ f = (nm, ds, v)) ∨ (i' ≠ j ∧ fs[i']? = some f) := by
    intro i' f hf'
    rw [List.getElem?_set] at hf'
    by_cases q : j = i'
    · subst q
      rw [if_pos rfl] at hf'
      split at hf'
      · exact Or.inl ⟨rfl, (Option.some.inj hf').symm⟩
      · cases hf'
    · rw [if_neg q] at hf'; exact Or.inr ⟨fun z => q z.symm, hf'⟩
  obtain ⟨t, o, st2, P⟩ := K T' _ X' (Fr.snoc X' N g1) (by
    rw [e']
    refine own_Hp_set hH hi W ⟨hE.wr W, fun i1 j1 f g h1 h2 hs => ?_, fun i1 f h1 => ?_⟩
    · rcases key i1 f h1 with ⟨z1, rfl⟩ | ⟨z1, z2⟩ <;> rcases key j1 g h2 with ⟨y1, rfl⟩ | ⟨y1, y2⟩
      · rw [z1, y1]
      · rw [z1]; exact hS j j1 (nm, ds, old) g hj y2 hs
      · rw [y1]; exact hS i1 j f (nm, ds, old) z2 hj hs
      · exact hS i1 j1 f g z2 y2 hs
    · rcases key i1 f h1 with ⟨z1, rfl⟩ | ⟨z1, z2⟩
      · exact (hF j _ hj).same W
      · exact (hF i1 f z2).other W (Or.inr fun z => z1 (hS i1 j f (nm, ds, old) z2 hj z)))
  exact ⟨t, o, stp _ st2, P⟩
theorem own_Wk.initO (C : own_Wk Z n0 R y bytes maxL ret l Q G) (W : Nat) {ix : Nat} {a : Addr} (hd : decode bytes pc = .ok (.invokespecial ix, 3)) (w1 : (Jvm.Cond.methodLink y.cls ix Lib.objectInit).before a0 Z = true) (w2 : (Jvm.Cond.instanceMethod Lib.objectInit).before a0 Z = true) (w3 : (Jvm.Cond.code Lib.objectInit ⟨#[0xb1]⟩ 1 none).before a0 Z = true)
    (hls : ls.length = maxL) (hf : 1 ≤ R.frames) (hW : (st.map fun v => v.category).sum ≤ W) (hl : W + 12 ≤ R.locals) (hq : pc + 3 = q) (K : G k n H q ls st) : G k n H pc ls (.ref a :: st) := by
  subst hq
  obtain ⟨p, e, s, m, args, below, meth, c, rfl, hx, hZ, hby, hml, hown, hnm, hret, hlk⟩ := C
  intro T L X N hH
  obtain ⟨T', X', e', stp⟩ := RoadKit.initO X hx hZ hown w1 w2 w3 rfl (g := mkF m pc ⟨ls⟩ (.ref a :: st)) rfl (by rw [hml]; exact hls) rfl (hb hby hd) hf (W := W) (by show 2 * 0 + _ ≤ _; rw [Nat.mul_zero, Nat.zero_add]; exact hW) hl
  obtain ⟨t, o, st2, P⟩ := K T' _ X' N (by rw [e']; exact hH)
  exact ⟨t, o, stp _ st2, P⟩
-- calls
theorem own_Wk.callS (C : own_Wk Z n0 R y bytes maxL ret l Q G) (W : Nat) (argsL rest : List Value) {ix : Nat} {y' : MethodName} {bytes' : ByteArray} {maxL' : Nat} {ret' r : Option FieldType} {ps : List FieldType} {rm : Room} {Q' : Option Value → own_Hs → Prop}
    (hd : decode bytes pc = .ok (.invokestatic ix, 3)) (w1 : (Jvm.Cond.methodLink y.cls ix y').before a0 Z = true) (w2 : (Jvm.Cond.static y').before a0 Z = true) (w3 : (Jvm.Cond.initialized y'.cls).before a0 Z = true) (w4 : (Jvm.Cond.code y' bytes' maxL' ret').before a0 Z = true)
    (hM : own_Con l Z n0 y' bytes' maxL' ret' [] rm argsL.toArray H Q') (hy : y'.cls ≠ "java/lang/invoke/MethodHandle" ∧ y'.cls ≠ "java/lang/invoke/VarHandle") (hfr : rm.frames + 1 ≤ R.frames) (hlo : W + (maxL' + 11) + rm.locals ≤ R.locals) (hds : parseMethodDescriptor y'.desc = some ⟨ps, r⟩) (hln : argsL.length = ps.length)
    (hls : ls.length = maxL) (hst : st = argsL.reverse ++ rest) (hW : (rest.map fun v => v.category).sum ≤ W) (hc : k + rm.cells ≤ R.cells) (hs : n + rm.slots ≤ R.slots) (hq : pc + 3 = q) (K : ∀ v H', Q' v H' → G (k + rm.cells) (n + rm.slots) H' q ls (v.toList ++ rest)) : G k n H pc ls st := by
  subst hq
  obtain ⟨p, e, s, m, args, below, meth, c, rfl, hx, hZ, hby, hml, hown, hnm, hret, hlk⟩ := C
  intro T L X N hH
  obtain ⟨v, vm₁, ⟨T', L', k', n'⟩, -, X', ⟨Lc, hQ, l', c', s'⟩, stp⟩ := Jvm.LawKit.callS X hx (y := y') hown (mvT hZ w1) (mvT hZ w2) (mvT hZ w3) (mvT hZ w4) hy
    (backOf (W := W) (Q := fun v h L => Fr n0 L ∧ ∃ H', own_Hp Z n0 h H' ∧ Q' v H') (hM T.heap hH) hZ w4 w3 hfr hlo) (g := mkF m pc ⟨ls⟩ st) rfl (by rw [hml]; exact hls) (argsL := argsL) (rest := rest) (lenOf hds hln) hst (by show 2 * 0 + _ ≤ _; rw [Nat.mul_zero, Nat.zero_add]; exact hW) (hb hby hd) (fun _ _ => ⟨rfl, rfl, hc, hs⟩)
  dsimp only [Pt.U, Pt.locs, Pt.cells, Pt.slots] at X' l' c' s' stp hQ
  subst l' c' s'
  obtain ⟨N', H', hH', hQ'⟩ := hQ
  obtain ⟨t, o, st2, P⟩ := K v H' hQ' T' _ X' (Fr.app N N') hH'
  exact ⟨t, o, stp _ st2, P⟩
theorem own_Wk.callI (C : own_Wk Z n0 R y bytes maxL ret l Q G) (W : Nat) (a : Addr) (argsL rest : List Value) {ix : Nat} {y' : MethodName} {bytes' : ByteArray} {maxL' : Nat} {r : Option FieldType} {ps : List FieldType} {rm : Room} {Q' : Option Value → own_Hs → Prop}
    (hd : decode bytes pc = .ok (.invokespecial ix, 3)) (w1 : (Jvm.Cond.methodLink y.cls ix y').before a0 Z = true) (w2 : (Jvm.Cond.instanceMethod y').before a0 Z = true) (w3 : (Jvm.Cond.initialized y'.cls).before a0 Z = true) (w4 : (Jvm.Cond.code y' bytes' maxL' none).before a0 Z = true)
    (hM : own_Con l Z n0 y' bytes' maxL' none [] rm (.ref a :: argsL).toArray H Q') (hnm' : y'.name = "<init>") (hy : y'.cls ≠ "java/lang/invoke/MethodHandle" ∧ y'.cls ≠ "java/lang/invoke/VarHandle") (hfr : rm.frames + 1 ≤ R.frames) (hlo : W + (maxL' + 11) + rm.locals ≤ R.locals) (hds : parseMethodDescriptor y'.desc = some ⟨ps, r⟩) (hln : argsL.length = ps.length)
    (hls : ls.length = maxL) (hst : st = argsL.reverse ++ .ref a :: rest) (hW : (rest.map fun v => v.category).sum ≤ W) (hc : k + rm.cells ≤ R.cells) (hs : n + rm.slots ≤ R.slots) (hq : pc + 3 = q) (K : ∀ v H', Q' v H' → G (k + rm.cells) (n + rm.slots) H' q ls (v.toList ++ rest)) : G k n H pc ls st := by
  subst hq
  obtain ⟨p, e, s, m, args, below, meth, c, rfl, hx, hZ, hby, hml, hown, hnm, hret, hlk⟩ := C
  intro T L X N hH
  obtain ⟨v, vm₁, ⟨T', L', k', n'⟩, -, X', ⟨Lc, hQ, l', c', s'⟩, stp⟩ := X.specialBack hx (y := y') hnm' hown (mvT hZ w1) (mvT hZ w2) (mvT hZ w4) hy
    (backOf (W := W) (Q := fun v h L => Fr n0 L ∧ ∃ H', own_Hp Z n0 h H' ∧ Q' v H') (hM T.heap hH) hZ w4 w3 hfr hlo) (g := mkF m pc ⟨ls⟩ st) rfl (by rw [hml]; exact hls) (Steps.refl _) (a := a) (argsL := argsL) (rest := rest) (lenOf hds hln) hst (by show 2 * 0 + _ ≤ _; rw [Nat.mul_zero, Nat.zero_add]; exact hW) (hb hby hd) (fun _ _ => ⟨rfl, rfl, hc, hs⟩)
  dsimp only [Pt.U, Pt.locs, Pt.cells, Pt.slots] at X' l' c' s' stp hQ
  subst l' c' s'
  obtain ⟨N', H', hH', hQ'⟩ := hQ
  obtain ⟨t, o, st2, P⟩ := K v H' hQ' T' _ X' (Fr.app N N') hH'
  exact ⟨t, o, stp.trans st2, P⟩
theorem own_Wk.callV (C : own_Wk Z n0 R y bytes maxL ret l Q G) (W i : Nat) (argsL rest : List Value) {a : Addr} {ix : Nat} {y' : MethodName} {bytes' : ByteArray} {maxL' : Nat} {ret' r : Option FieldType} {ps : List FieldType} {fs : List (String × String × Value)} {rm : Room} {Q' : Option Value → own_Hs → Prop}
    (hd : decode bytes pc = .ok (.invokevirtual ix, 3)) (w1 : (Jvm.Cond.methodLink y.cls ix y').before a0 Z = true) (w2 : (Jvm.Cond.declares y').before a0 Z = true) (w5 : (Jvm.Cond.instanceMethod y').before a0 Z = true) (w6 : (Jvm.Cond.selects y'.cls y' y').before a0 Z = true) (w3 : (Jvm.Cond.initialized y'.cls).before a0 Z = true) (w4 : (Jvm.Cond.code y' bytes' maxL' ret').before a0 Z = true)
    (hM : own_Con l Z n0 y' bytes' maxL' ret' [] rm (.ref a :: argsL).toArray H Q') (hy : y'.cls ≠ "java/lang/invoke/MethodHandle" ∧ y'.cls ≠ "java/lang/invoke/VarHandle") (hfr : rm.frames + 1 ≤ R.frames) (hlo : W + (maxL' + 11) + rm.locals ≤ R.locals) (hds : parseMethodDescriptor y'.desc = some ⟨ps, r⟩) (hln : argsL.length = ps.length)
    (hi : H[i]? = some (a, .inr (y'.cls, fs))) (hls : ls.length = maxL) (hst : st = argsL.reverse ++ .ref a :: rest) (hW : (rest.map fun v => v.category).sum ≤ W) (hc : k + rm.cells ≤ R.cells) (hs : n + rm.slots ≤ R.slots) (hq : pc + 3 = q) (K : ∀ v H', Q' v H' → G (k + rm.cells) (n + rm.slots) H' q ls (v.toList ++ rest)) : G k n H pc ls st := by
  subst hq
  obtain ⟨p, e, s, m, args, below, meth, c, rfl, hx, hZ, hby, hml, hown, hnm, hret, hlk⟩ := C
  intro T L X N hH
  obtain ⟨-, -, hE, -, -⟩ := hH.2.2 i _ _ hi
  obtain ⟨cB, kB, b1, -, b3⟩ := isOf hZ rfl hE
  obtain ⟨v, vm₁, ⟨T', L', k', n'⟩, -, X', ⟨Lc, hQ, l', c', s'⟩, stp⟩ := X.virtualBack hx (y := y') (z := y') hown (mvT hZ w1) (mvT hZ w2) (notFace_of_selects (args := #[]) (mvT hZ w6)) (mvT hZ w6) (mvT hZ w5) hy
    (backOf (W := W) (Q := fun v h L => Fr n0 L ∧ ∃ H', own_Hp Z n0 h H' ∧ Q' v H') (hM T.heap hH) hZ w4 w3 hfr hlo) b1 b3 (g := mkF m pc ⟨ls⟩ st) rfl (by rw [hml]; exact hls) (Steps.refl _) (argsL := argsL) (rest := rest) (lenOf hds hln) hst (by show 2 * 0 + _ ≤ _; rw [Nat.mul_zero, Nat.zero_add]; exact hW) (hb hby hd) (fun _ _ => ⟨rfl, rfl, hc, hs⟩)
  dsimp only [Pt.U, Pt.locs, Pt.cells, Pt.slots] at X' l' c' s' stp hQ
  subst l' c' s'
  obtain ⟨N', H', hH', hQ'⟩ := hQ
  obtain ⟨t, o, st2, P⟩ := K v H' hQ' T' _ X' (Fr.app N N') hH'
  exact ⟨t, o, stp.trans st2, P⟩
theorem own_Wk.callF (C : own_Wk Z n0 R y bytes maxL ret l Q G) (W i : Nat) (argsL rest : List Value) {a : Addr} {ix cnt : Nat} {xi y' : MethodName} {bytes' : ByteArray} {maxL' : Nat} {ret' r : Option FieldType} {ps : List FieldType} {fs : List (String × String × Value)} {rm : Room} {Q' : Option Value → own_Hs → Prop}
    (hd : decode bytes pc = .ok (.invokeinterface ix cnt, 5)) (w1 : (Jvm.Cond.methodLink y.cls ix xi).before a0 Z = true) (w2 : (Jvm.Cond.declares xi).before a0 Z = true) (w7 : ∀ {s : State} {args : Array Value}, Z.Warmed39 s.vm → (Jvm.Cond.interfaceMethod xi.cls xi.cls xi.name xi.desc).before args s = true) (w6 : (Jvm.Cond.selects y'.cls xi y').before a0 Z = true) (w5 : (Jvm.Cond.instanceMethod y').before a0 Z = true)
    (w8 : (Jvm.Cond.publicMethod y').before a0 Z = true) (w9 : (Jvm.Cond.unhidden y'.cls xi.name xi.desc).before a0 Z = true) (w10 : (Jvm.Cond.castable y'.cls xi.cls).before a0 Z = true) (w3 : (Jvm.Cond.initialized y'.cls).before a0 Z = true) (w4 : (Jvm.Cond.code y' bytes' maxL' ret').before a0 Z = true)
    (hM : own_Con l Z n0 y' bytes' maxL' ret' [] rm (.ref a :: argsL).toArray H Q') (hy : xi.cls ≠ "java/lang/invoke/MethodHandle" ∧ xi.cls ≠ "java/lang/invoke/VarHandle") (hfr : rm.frames + 1 ≤ R.frames) (hlo : W + (maxL' + 11) + rm.locals ≤ R.locals) (hds : parseMethodDescriptor xi.desc = some ⟨ps, r⟩) (hln : argsL.length = ps.length)
    (hi : H[i]? = some (a, .inr (y'.cls, fs))) (hls : ls.length = maxL) (hst : st = argsL.reverse ++ .ref a :: rest) (hW : (rest.map fun v => v.category).sum ≤ W) (hc : k + rm.cells ≤ R.cells) (hs : n + rm.slots ≤ R.slots) (hq : pc + 5 = q) (K : ∀ v H', Q' v H' → G (k + rm.cells) (n + rm.slots) H' q ls (v.toList ++ rest)) : G k n H pc ls st := by
  subst hq
  obtain ⟨p, e, s, m, args, below, meth, c, rfl, hx, hZ, hby, hml, hown, hnm, hret, hlk⟩ := C
  intro T L X N hH
  obtain ⟨-, -, hE, -, -⟩ := hH.2.2 i _ _ hi
  obtain ⟨cB, kB, b1, b2, b3⟩ := isOf hZ rfl hE
  obtain ⟨v, vm₁, ⟨T', L', k', n'⟩, -, X', ⟨Lc, hQ, l', c', s'⟩, stp⟩ := X.interfaceBack hx (xi := xi) (y := y') hown (mvT hZ w1) (mvT hZ w2) (w7 hZ) (mvT hZ w6) (mvT hZ w5) (mvT hZ w8) (mvT hZ w9) (mvT hZ w10) hy
    (backOf (W := W) (Q := fun v h L => Fr n0 L ∧ ∃ H', own_Hp Z n0 h H' ∧ Q' v H') (hM T.heap hH) hZ w4 w3 hfr hlo) b1 b2 b3 (g := mkF m pc ⟨ls⟩ st) rfl (by rw [hml]; exact hls) (Steps.refl _) (argsL := argsL) (rest := rest) (lenOf hds hln) hst (by show 2 * 0 + _ ≤ _; rw [Nat.mul_zero, Nat.zero_add]; exact hW) (hb hby hd) (fun _ _ => ⟨rfl, rfl, hc, hs⟩)
  dsimp only [Pt.U, Pt.locs, Pt.cells, Pt.slots] at X' l' c' s' stp hQ
  subst l' c' s'
  obtain ⟨N', H', hH', hQ'⟩ := hQ
  obtain ⟨t, o, st2, P⟩ := K v H' hQ' T' _ X' (Fr.app N N') hH'
  exact ⟨t, o, stp.trans st2, P⟩
-- clone of an int[], checkcast to it, the two switches
theorem own_fit {h : Heap} {a : Addr} {cl : Cell} {vs : List Value} (A : Arr Z h a cl .int) (hc : cl.slots.toList = vs) (hv : ∀ v ∈ vs, ∃ z : Int32, v = .int z) : FitC Z cl := by
  intro i v hi
  obtain ⟨z, rfl⟩ := hv v (by rw [← hc]; exact List.mem_of_getElem? (by rw [Array.getElem?_toList]; exact hi))
  obtain ⟨-, k, hk, comp, hkind⟩ := A.2.1
  simp [State.fitsSlot, State.slotType?, hk, hkind]
  rfl
theorem own_exa {h : Heap} {a : Addr} {cl : Cell} (A : Arr Z h a cl .int) (hcI : Z.vm.findClass "[I" = some cl.cls) : Exa Z h a "[I" := by
  obtain ⟨-, k, hk, comp, hkind⟩ := A.2.1
  exact ⟨cl, k, A.1, hcI, hk, A.plain, fun z => by rw [hkind] at z; cases z⟩
theorem own_Wk.clone (C : own_Wk Z n0 R y bytes maxL ret l Q G) (W cap i : Nat) {a : Addr} {vs : List Value} {ix k' n' : Nat} (hd : decode bytes pc = .ok (.invokevirtual ix, 3))
    (w1 : (Jvm.Cond.methodLink y.cls ix ⟨"[I", "clone", "()Ljava/lang/Object;"⟩).before a0 Z = true) (w2 : (Jvm.Cond.sameMethod "[I" "java/lang/Object" "clone" "()Ljava/lang/Object;").before a0 Z = true) (w3 : (Jvm.Cond.native ⟨"java/lang/Object", "clone", "()Ljava/lang/Object;"⟩).before a0 Z = true)
    (w4 : (Jvm.Cond.instanceMethod ⟨"java/lang/Object", "clone", "()Ljava/lang/Object;"⟩).before a0 Z = true) (w5 : (Jvm.Cond.selects "[I" ⟨"[I", "clone", "()Ljava/lang/Object;"⟩ ⟨"java/lang/Object", "clone", "()Ljava/lang/Object;"⟩).before a0 Z = true) (w6 : (Jvm.Cond.castable "[I" "java/lang/Cloneable").before a0 Z = true)
    (hi : H[i]? = some (a, .inl (.int, vs))) (hv : ∀ v ∈ vs, ∃ z : Int32, v = .int z) (hls : ls.length = maxL) (hf : 1 ≤ R.frames) (hW : (st.map fun v => v.category).sum ≤ W) (hlo : W + 14 ≤ R.locals) (hcap : vs.length ≤ cap) (hc : k + 1 ≤ R.cells) (hl : n + cap ≤ R.slots)
    (hk' : k + 1 = k') (hn' : n + cap = n') (hq : pc + 3 = q) (K : ∀ b, G k' n' (H ++ [(b, .inl (.int, vs))]) q ls (.ref b :: st)) : G k n H pc ls (.ref a :: st) := by
  subst hq hk' hn'
  obtain ⟨p, e, s, m, args, below, meth, c, rfl, hx, hZ, hby, hml, hown, hnm, hret, hlk⟩ := C
  intro T L X N hH
  obtain ⟨-, -, cl, A, hcl, hcI⟩ := hH.2.2 i _ _ hi
  have hcl' : cl.slots.toList = vs := hcl
  obtain ⟨T', h', X', e', E, A', E', stp⟩ := cloneA X hx hZ hown w1 w2 w3 w4 w5 w6 rfl A (own_exa A (hcI rfl)) (own_fit A hcl' hv) (g := mkF m pc ⟨ls⟩ (.ref a :: st)) rfl (by rw [hml]; exact hls) rfl (hb hby hd) hf (W := W) (by show 2 * 0 + _ ≤ _; rw [Nat.mul_zero, Nat.zero_add]; exact hW) hlo (cap := cap) (by rw [← Array.length_toList, hcl']; exact hcap) hc hl
  obtain ⟨t, o, st2, P⟩ := K T.heap.size T' _ X' N (by
    rw [e']
    exact own_Hp_new hH E A'.lt ⟨_, A', hcl', fun _ => hcI rfl⟩)
  exact ⟨t, o, stp _ st2, P⟩
theorem own_Wk.castI (C : own_Wk Z n0 R y bytes maxL ret l Q G) (i : Nat) {a : Addr} {vs : List Value} {ix : Nat} (hd : decode bytes pc = .ok (.checkcast ix, 3)) (w1 : (Jvm.Cond.classLink y.cls ix "[I").before a0 Z = true) (hi : H[i]? = some (a, .inl (.int, vs))) (hq : pc + 3 = q) (K : G k n H q ls (.ref a :: st)) : G k n H pc ls (.ref a :: st) := by
  subst hq
  obtain ⟨p, e, s, m, args, below, meth, c, rfl, hx, hZ, hby, hml, hown, hnm, hret, hlk⟩ := C
  intro T L X N hH
  obtain ⟨-, -, cl, A, hcl, hcI⟩ := hH.2.2 i _ _ hi
  obtain ⟨T', X', e', stp⟩ := castY X hx hZ hown w1 rfl (Ins.self (own_exa A (hcI rfl))) (g := mkF m pc ⟨ls⟩ (.ref a :: st)) rfl rfl (hb hby hd)
  obtain ⟨t, o, st2, P⟩ := K T' _ X' N (by rw [e']; exact hH)
  exact ⟨t, o, stp _ st2, P⟩
theorem own_Wk.lswMiss (C : own_Wk Z n0 R y bytes maxL ret l Q G) {dflt : Int} {pairs : Array (Int × Int)} {len : Nat} {z : Int32} (hd : decode bytes pc = .ok (.lookupswitch dflt pairs, len)) (hs : (pairs.toList.zip (pairs.toList.drop 1)).all (fun (a, next) => a.1 < next.1) = true) (hf : pairs.find? (·.1 == z.toInt) = none) (ho : 0 ≤ (pc : Int) + dflt) (hq : ((pc : Int) + dflt).toNat = q) (K : G k n H q ls st) : G k n H pc ls (.int z :: st) := by
  subst hq
  obtain ⟨p, e, s, m, args, below, meth, c, rfl, hx, hZ, hby, hml, hown, hnm, hret, hlk⟩ := C
  intro T L X N hH
  obtain ⟨t, o, stp, P⟩ := K T L X N hH
  exact ⟨t, o, X.lookupswitchMiss hx (g := mkF m pc ⟨ls⟩ (.int z :: st)) rfl rfl (hb hby hd) hs hf ho _ stp, P⟩
theorem own_Wk.tswIn (C : own_Wk Z n0 R y bytes maxL ret l Q G) {dflt low high off : Int} {offs : Array Int} {len : Nat} {z : Int32} (hd : decode bytes pc = .ok (.tableswitch dflt low high offs, len)) (hin : ¬ (z.toInt < low ∨ z.toInt > high)) (hoff : offs[(z.toInt - low).toNat]? = some off) (ho : 0 ≤ (pc : Int) + off) (hq : ((pc : Int) + off).toNat = q) (K : G k n H q ls st) : G k n H pc ls (.int z :: st) := by
  subst hq
  obtain ⟨p, e, s, m, args, below, meth, c, rfl, hx, hZ, hby, hml, hown, hnm, hret, hlk⟩ := C
  intro T L X N hH
  obtain ⟨t, o, stp, P⟩ := K T L X N hH
  exact ⟨t, o, X.tableswitchIn hx (g := mkF m pc ⟨ls⟩ (.int z :: st)) rfl rfl (hb hby hd) hin hoff ho _ stp, P⟩
end OwnKit
theorem own_pd0 : parseMethodDescriptor "(I[III)I" = some ⟨[.int, (.array .int), .int, .int], some .int⟩ := by decide +kernel
theorem own_pd1 : parseMethodDescriptor "(Ljava/lang/Object;IIII)I" = some ⟨[(.object "java/lang/Object"), .int, .int, .int, .int], some .int⟩ := by decide +kernel
theorem own_pd2 : parseMethodDescriptor "([I)I" = some ⟨[(.array .int)], some .int⟩ := by decide +kernel
theorem own_pd3 : parseMethodDescriptor "()I" = some ⟨[], some .int⟩ := by decide +kernel
theorem own_pd4 : parseMethodDescriptor "([I[I)V" = some ⟨[(.array .int), (.array .int)], none⟩ := by decide +kernel
theorem own_pd5 : parseMethodDescriptor "(Lcom/example/lambdaloom/lambdaloom/Route;[I)V" = some ⟨[(.object "com/example/lambdaloom/lambdaloom/Route"), (.array .int)], none⟩ := by decide +kernel
theorem own_pd6 : parseMethodDescriptor "(I)Z" = some ⟨[.int], some .boolean⟩ := by decide +kernel
theorem dh3_0 : decode jdk_48_method_9_code 0 = .ok (.iload_n 2, 1) := by decide +kernel
theorem dh3_1 : decode jdk_48_method_9_code 1 = .ok (.iload_n 3, 1) := by decide +kernel
theorem dh3_2 : decode jdk_48_method_9_code 2 = .ok (.iadd, 1) := by decide +kernel
theorem dh3_3 : decode jdk_48_method_9_code 3 = .ok (.istore 4, 2) := by decide +kernel
theorem dh3_5 : decode jdk_48_method_9_code 5 = .ok (.iload_n 2, 1) := by decide +kernel
theorem dh3_6 : decode jdk_48_method_9_code 6 = .ok (.istore 5, 2) := by decide +kernel
theorem dh3_8 : decode jdk_48_method_9_code 8 = .ok (.iload 5, 2) := by decide +kernel
theorem dh3_10 : decode jdk_48_method_9_code 10 = .ok (.iload 4, 2) := by decide +kernel
theorem dh3_12 : decode jdk_48_method_9_code 12 = .ok (.if_icmp .ge 19, 3) := by decide +kernel
theorem dh3_15 : decode jdk_48_method_9_code 15 = .ok (.bipush 31, 2) := by decide +kernel
theorem dh3_17 : decode jdk_48_method_9_code 17 = .ok (.iload_n 0, 1) := by decide +kernel
theorem dh3_18 : decode jdk_48_method_9_code 18 = .ok (.imul, 1) := by decide +kernel
theorem dh3_19 : decode jdk_48_method_9_code 19 = .ok (.aload_n 1, 1) := by decide +kernel
theorem dh3_20 : decode jdk_48_method_9_code 20 = .ok (.iload 5, 2) := by decide +kernel
theorem dh3_22 : decode jdk_48_method_9_code 22 = .ok (.iaload, 1) := by decide +kernel
theorem dh3_23 : decode jdk_48_method_9_code 23 = .ok (.iadd, 1) := by decide +kernel
theorem dh3_24 : decode jdk_48_method_9_code 24 = .ok (.istore_n 0, 1) := by decide +kernel
theorem dh3_25 : decode jdk_48_method_9_code 25 = .ok (.iinc 5 1, 3) := by decide +kernel
theorem dh3_28 : decode jdk_48_method_9_code 28 = .ok (.goto (-20), 3) := by decide +kernel
theorem dh3_31 : decode jdk_48_method_9_code 31 = .ok (.iload_n 0, 1) := by decide +kernel
theorem dh3_32 : decode jdk_48_method_9_code 32 = .ok (.ireturn, 1) := by decide +kernel
theorem own_pnh3 : plainFor (⟨"jdk/internal/util/ArraysSupport", "hashCode", "(I[III)I"⟩ : MethodName) = true := by first | exact plainFor_of_name (by first | (simp [plainName, overriddenIn]; done) | decide +kernel) | decide +kernel
set_option maxHeartbeats 4000000 in
theorem own_efh3 (m : MethodId) (x0 : Int32) (x1 : Addr) (x2 : Int32) (x3 : Int32) : entryFrame m #[.int x0, .ref x1, .int x2, .int x3] 6 = mkF m 0 #[.val (.int x0), .val (.ref x1), .val (.int x2), .val (.int x3), .unset, .unset] [] := by first | (simp [entryFrame, mkF, argsToLocals, Value.category, maxLocals]; done) | rfl
set_option maxRecDepth 65536 in
set_option maxHeartbeats 40000000 in
theorem own_ch3 (l : Launch) (Z : State) (a0 : Array Value) (n0 : Nat) (hw : ∀ d ∈ tables_1, d.before a0 Z = true) (ws : List Jvm.Cond) (r : Int32) (a : Addr) (i : Nat) (x0 x1 x2 : Int32) (H : own_Hs) (hi : H[i]? = some (a, .inl (.int, [.int x0, .int x1, .int x2])))  :
    own_Con l Z n0 (⟨"jdk/internal/util/ArraysSupport", "hashCode", "(I[III)I"⟩ : MethodName) jdk_48_method_9_code 6 (some .int) ws ({ frames := 0, cells := 0, slots := 0, locals := 0 } : Room) #[.int r, .ref a, .int (0 : Int32), .int (3 : Int32)] H (fun v H' => (∃ z : Int32, v = some (.int z)) ∧ H' = H) := by
  refine own_con own_pnh3 (fun m_ => own_efh3 m_ r a (0 : Int32) (3 : Int32)) ?_
  intro G C
  refine C.iloadN (q := 1) dh3_0 rfl rfl ?_
  refine C.iloadN (q := 2) dh3_1 rfl rfl ?_
  refine C.iadd (q := 3) dh3_2 rfl ?_
  show G 0 0 H 3 [.val (.int r), .val (.ref a), .val (.int (0 : Int32)), .val (.int (3 : Int32)), .unset, .unset] [.int (3 : Int32)]
  refine C.istore (q := 5) (ls' := [.val (.int r), .val (.ref a), .val (.int (0 : Int32)), .val (.int (3 : Int32)), .val (.int (3 : Int32)), .unset]) dh3_3 rfl rfl ?_
  refine C.iloadN (q := 6) dh3_5 rfl rfl ?_
  refine C.istore (q := 8) (ls' := [.val (.int r), .val (.ref a), .val (.int (0 : Int32)), .val (.int (3 : Int32)), .val (.int (3 : Int32)), .val (.int (0 : Int32))]) dh3_6 rfl rfl ?_
  refine C.iload (q := 10) dh3_8 rfl rfl ?_
  refine C.iload (q := 12) dh3_10 rfl rfl ?_
  refine C.icmpGe (q := 31) (q' := 15) dh3_12 (by decide) (by decide) rfl (fun h12 => ?_) (fun h12 => absurd (by decide) h12)
  refine C.bipush (q := 17) (z := (31 : Int32)) dh3_15 rfl rfl ?_
  refine C.iloadN (q := 18) dh3_17 rfl rfl ?_
  refine C.imul (q := 19) dh3_18 rfl ?_
  refine C.aloadN (q := 20) dh3_19 rfl rfl rfl ?_
  refine C.iload (q := 22) dh3_20 rfl rfl ?_
  refine C.iaload (q := 23) i (v := .int x0) dh3_22 hi (by decide) rfl rfl ?_
  refine C.iadd (q := 24) dh3_23 rfl ?_
  refine C.istoreN (q := 25) (ls' := [.val (.int (((31 : Int32) * r) + x0)), .val (.ref a), .val (.int (0 : Int32)), .val (.int (3 : Int32)), .val (.int (3 : Int32)), .val (.int (0 : Int32))]) dh3_24 rfl rfl ?_
  refine C.iinc (q := 28) (z := (1 : Int32)) (ls' := [.val (.int (((31 : Int32) * r) + x0)), .val (.ref a), .val (.int (0 : Int32)), .val (.int (3 : Int32)), .val (.int (3 : Int32)), .val (.int ((0 : Int32) + (1 : Int32)))]) dh3_25 rfl rfl rfl rfl ?_
  show G 0 0 H 28 [.val (.int (((31 : Int32) * r) + x0)), .val (.ref a), .val (.int (0 : Int32)), .val (.int (3 : Int32)), .val (.int (3 : Int32)), .val (.int (1 : Int32))] []
  refine C.goto (q := 8) dh3_28 (by decide) (by decide) ?_
  refine C.iload (q := 10) dh3_8 rfl rfl ?_
  refine C.iload (q := 12) dh3_10 rfl rfl ?_
  refine C.icmpGe (q := 31) (q' := 15) dh3_12 (by decide) (by decide) rfl (fun h12 => ?_) (fun h12 => absurd (by decide) h12)
  refine C.bipush (q := 17) (z := (31 : Int32)) dh3_15 rfl rfl ?_
  refine C.iloadN (q := 18) dh3_17 rfl rfl ?_
  refine C.imul (q := 19) dh3_18 rfl ?_
  refine C.aloadN (q := 20) dh3_19 rfl rfl rfl ?_
  refine C.iload (q := 22) dh3_20 rfl rfl ?_
  refine C.iaload (q := 23) i (v := .int x1) dh3_22 hi (by decide) rfl rfl ?_
  refine C.iadd (q := 24) dh3_23 rfl ?_
  refine C.istoreN (q := 25) (ls' := [.val (.int (((31 : Int32) * (((31 : Int32) * r) + x0)) + x1)), .val (.ref a), .val (.int (0 : Int32)), .val (.int (3 : Int32)), .val (.int (3 : Int32)), .val (.int (1 : Int32))]) dh3_24 rfl rfl ?_
  refine C.iinc (q := 28) (z := (1 : Int32)) (ls' := [.val (.int (((31 : Int32) * (((31 : Int32) * r) + x0)) + x1)), .val (.ref a), .val (.int (0 : Int32)), .val (.int (3 : Int32)), .val (.int (3 : Int32)), .val (.int ((1 : Int32) + (1 : Int32)))]) dh3_25 rfl rfl rfl rfl ?_
  show G 0 0 H 28 [.val (.int (((31 : Int32) * (((31 : Int32) * r) + x0)) + x1)), .val (.ref a), .val (.int (0 : Int32)), .val (.int (3 : Int32)), .val (.int (3 : Int32)), .val (.int (2 : Int32))] []
  refine C.goto (q := 8) dh3_28 (by decide) (by decide) ?_
  refine C.iload (q := 10) dh3_8 rfl rfl ?_
  refine C.iload (q := 12) dh3_10 rfl rfl ?_
  refine C.icmpGe (q := 31) (q' := 15) dh3_12 (by decide) (by decide) rfl (fun h12 => ?_) (fun h12 => absurd (by decide) h12)
  refine C.bipush (q := 17) (z := (31 : Int32)) dh3_15 rfl rfl ?_
  refine C.iloadN (q := 18) dh3_17 rfl rfl ?_
  refine C.imul (q := 19) dh3_18 rfl ?_
  refine C.aloadN (q := 20) dh3_19 rfl rfl rfl ?_
  refine C.iload (q := 22) dh3_20 rfl rfl ?_
  refine C.iaload (q := 23) i (v := .int x2) dh3_22 hi (by decide) rfl rfl ?_
  refine C.iadd (q := 24) dh3_23 rfl ?_
  refine C.istoreN (q := 25) (ls' := [.val (.int (((31 : Int32) * (((31 : Int32) * (((31 : Int32) * r) + x0)) + x1)) + x2)), .val (.ref a), .val (.int (0 : Int32)), .val (.int (3 : Int32)), .val (.int (3 : Int32)), .val (.int (2 : Int32))]) dh3_24 rfl rfl ?_
  refine C.iinc (q := 28) (z := (1 : Int32)) (ls' := [.val (.int (((31 : Int32) * (((31 : Int32) * (((31 : Int32) * r) + x0)) + x1)) + x2)), .val (.ref a), .val (.int (0 : Int32)), .val (.int (3 : Int32)), .val (.int (3 : Int32)), .val (.int ((2 : Int32) + (1 : Int32)))]) dh3_25 rfl rfl rfl rfl ?_
  show G 0 0 H 28 [.val (.int (((31 : Int32) * (((31 : Int32) * (((31 : Int32) * r) + x0)) + x1)) + x2)), .val (.ref a), .val (.int (0 : Int32)), .val (.int (3 : Int32)), .val (.int (3 : Int32)), .val (.int (3 : Int32))] []
  refine C.goto (q := 8) dh3_28 (by decide) (by decide) ?_
  refine C.iload (q := 10) dh3_8 rfl rfl ?_
  refine C.iload (q := 12) dh3_10 rfl rfl ?_
  refine C.icmpGe (q := 31) (q' := 15) dh3_12 (by decide) (by decide) rfl (fun h12 => absurd h12 (by decide)) (fun h12 => ?_)
  refine C.iloadN (q := 32) dh3_31 rfl rfl ?_
  exact C.retI dh3_32 (by decide) (by decide) ⟨⟨_, rfl⟩, rfl⟩
theorem dv3_0 : decode jdk_48_method_4_code 0 = .ok (.iload 4, 2) := by decide +kernel
theorem dv3_2 : decode jdk_48_method_4_code 2 = .ok (.tableswitch 127 4 10 #[42, 55, 127, 127, 88, 101, 114], 42) := by decide +kernel
theorem dv3_116 : decode jdk_48_method_4_code 116 = .ok (.iload_n 3, 1) := by decide +kernel
theorem dv3_117 : decode jdk_48_method_4_code 117 = .ok (.aload_n 0, 1) := by decide +kernel
theorem dv3_118 : decode jdk_48_method_4_code 118 = .ok (.checkcast 82, 3) := by decide +kernel
theorem dv3_121 : decode jdk_48_method_4_code 121 = .ok (.iload_n 1, 1) := by decide +kernel
theorem dv3_122 : decode jdk_48_method_4_code 122 = .ok (.iload_n 2, 1) := by decide +kernel
theorem dv3_123 : decode jdk_48_method_4_code 123 = .ok (.invokestatic 84, 3) := by decide +kernel
theorem dv3_126 : decode jdk_48_method_4_code 126 = .ok (.goto 31, 3) := by decide +kernel
theorem dv3_157 : decode jdk_48_method_4_code 157 = .ok (.ireturn, 1) := by decide +kernel
theorem own_pnv3 : plainFor (⟨"jdk/internal/util/ArraysSupport", "vectorizedHashCode", "(Ljava/lang/Object;IIII)I"⟩ : MethodName) = true := by first | exact plainFor_of_name (by first | (simp [plainName, overriddenIn]; done) | decide +kernel) | decide +kernel
set_option maxHeartbeats 4000000 in
theorem own_efv3 (m : MethodId) (x0 : Addr) (x1 : Int32) (x2 : Int32) (x3 : Int32) (x4 : Int32) : entryFrame m #[.ref x0, .int x1, .int x2, .int x3, .int x4] 5 = mkF m 0 #[.val (.ref x0), .val (.int x1), .val (.int x2), .val (.int x3), .val (.int x4)] [] := by first | (simp [entryFrame, mkF, argsToLocals, Value.category, maxLocals]; done) | rfl
set_option maxRecDepth 65536 in
set_option maxHeartbeats 40000000 in
theorem own_cv3 (l : Launch) (Z : State) (a0 : Array Value) (n0 : Nat) (hw : ∀ d ∈ tables_1, d.before a0 Z = true) (ws : List Jvm.Cond) (a : Addr) (i : Nat) (x0 x1 x2 : Int32) (H : own_Hs) (hi : H[i]? = some (a, .inl (.int, [.int x0, .int x1, .int x2])))  :
    own_Con l Z n0 (⟨"jdk/internal/util/ArraysSupport", "vectorizedHashCode", "(Ljava/lang/Object;IIII)I"⟩ : MethodName) jdk_48_method_4_code 5 (some .int) ws ({ frames := 1, cells := 0, slots := 0, locals := 40 } : Room) #[.ref a, .int (0 : Int32), .int (3 : Int32), .int (1 : Int32), .int (10 : Int32)] H (fun v H' => (∃ z : Int32, v = some (.int z)) ∧ H' = H) := by
  refine own_con own_pnv3 (fun m_ => own_efv3 m_ a (0 : Int32) (3 : Int32) (1 : Int32) (10 : Int32)) ?_
  intro G C
  refine C.iload (q := 2) dv3_0 rfl rfl ?_
  refine C.tswIn (q := 116) (off := 114) dv3_2 (by decide) (by first | rfl | decide) (by decide) rfl ?_
  refine C.iloadN (q := 117) dv3_116 rfl rfl ?_
  refine C.aloadN (q := 118) dv3_117 rfl rfl rfl ?_
  refine C.castI (q := 121) i dv3_118 (hw _ (List.mem_of_getElem? (i := 32) rfl)) hi rfl ?_
  refine C.iloadN (q := 122) dv3_121 rfl rfl ?_
  refine C.iloadN (q := 123) dv3_122 rfl rfl ?_
  refine C.callS (q := 126) 0 [.int (1 : Int32), .ref a, .int (0 : Int32), .int (3 : Int32)] [] dv3_123 (hw _ (List.mem_of_getElem? (i := 33) rfl)) (hw _ (List.mem_of_getElem? (i := 34) rfl)) (hw _ (List.mem_of_getElem? (i := 30) rfl)) (hw _ (List.mem_of_getElem? (i := 35) rfl)) (own_ch3 l Z a0 n0 hw [] (1 : Int32) a i x0 x1 x2 H hi) (by decide) (by decide) (by decide) own_pd0 rfl rfl rfl (Nat.le_of_eq rfl) (by decide) (by decide) rfl ?_
  rintro _ _ ⟨⟨z, rfl⟩, hE⟩
  rw [hE]
  show G 0 0 H 126 [.val (.ref a), .val (.int (0 : Int32)), .val (.int (3 : Int32)), .val (.int (1 : Int32)), .val (.int (10 : Int32))] [.int z]
  refine C.goto (q := 157) dv3_126 (by decide) (by decide) ?_
  exact C.retI dv3_157 (by decide) (by decide) ⟨⟨_, rfl⟩, rfl⟩
theorem da3_0 : decode jdk_65_method_150_code 0 = .ok (.aload_n 0, 1) := by decide +kernel
theorem da3_1 : decode jdk_65_method_150_code 1 = .ok (.ifnonnull 5, 3) := by decide +kernel
theorem da3_6 : decode jdk_65_method_150_code 6 = .ok (.aload_n 0, 1) := by decide +kernel
theorem da3_7 : decode jdk_65_method_150_code 7 = .ok (.arraylength, 1) := by decide +kernel
theorem da3_8 : decode jdk_65_method_150_code 8 = .ok (.lookupswitch 41 #[(0, 28), (1, 32)], 28) := by decide +kernel
theorem da3_49 : decode jdk_65_method_150_code 49 = .ok (.aload_n 0, 1) := by decide +kernel
theorem da3_50 : decode jdk_65_method_150_code 50 = .ok (.iconst 0, 1) := by decide +kernel
theorem da3_51 : decode jdk_65_method_150_code 51 = .ok (.aload_n 0, 1) := by decide +kernel
theorem da3_52 : decode jdk_65_method_150_code 52 = .ok (.arraylength, 1) := by decide +kernel
theorem da3_53 : decode jdk_65_method_150_code 53 = .ok (.iconst 1, 1) := by decide +kernel
theorem da3_54 : decode jdk_65_method_150_code 54 = .ok (.bipush 10, 2) := by decide +kernel
theorem da3_56 : decode jdk_65_method_150_code 56 = .ok (.invokestatic 379, 3) := by decide +kernel
theorem da3_59 : decode jdk_65_method_150_code 59 = .ok (.ireturn, 1) := by decide +kernel
theorem own_pna3 : plainFor (⟨"java/util/Arrays", "hashCode", "([I)I"⟩ : MethodName) = true := by first | exact plainFor_of_name (by first | (simp [plainName, overriddenIn]; done) | decide +kernel) | decide +kernel
set_option maxHeartbeats 4000000 in
theorem own_efa3 (m : MethodId) (x0 : Addr) : entryFrame m #[.ref x0] 1 = mkF m 0 #[.val (.ref x0)] [] := by first | (simp [entryFrame, mkF, argsToLocals, Value.category, maxLocals]; done) | rfl
set_option maxRecDepth 65536 in
set_option maxHeartbeats 40000000 in
theorem own_ca3 (l : Launch) (Z : State) (a0 : Array Value) (n0 : Nat) (hw : ∀ d ∈ tables_1, d.before a0 Z = true) (ws : List Jvm.Cond) (a : Addr) (i : Nat) (x0 x1 x2 : Int32) (H : own_Hs) (hi : H[i]? = some (a, .inl (.int, [.int x0, .int x1, .int x2])))  :
    own_Con l Z n0 (⟨"java/util/Arrays", "hashCode", "([I)I"⟩ : MethodName) jdk_65_method_150_code 1 (some .int) ws ({ frames := 2, cells := 0, slots := 0, locals := 80 } : Room) #[.ref a] H (fun v H' => (∃ z : Int32, v = some (.int z)) ∧ H' = H) := by
  refine own_con own_pna3 (fun m_ => own_efa3 m_ a) ?_
  intro G C
  refine C.aloadN (q := 1) da3_0 rfl rfl rfl ?_
  refine C.nonnullY (q := 6) da3_1 (by decide) (by decide) ?_
  refine C.aloadN (q := 7) da3_6 rfl rfl rfl ?_
  refine C.alen (q := 8) i (z := (3 : Int32)) da3_7 hi rfl rfl ?_
  refine C.lswMiss (q := 49) da3_8 (by decide) (by first | decide | rfl | decide +kernel) (by decide) rfl ?_
  refine C.aloadN (q := 50) da3_49 rfl rfl rfl ?_
  refine C.iconst (q := 51) (z := (0 : Int32)) da3_50 rfl rfl ?_
  refine C.aloadN (q := 52) da3_51 rfl rfl rfl ?_
  refine C.alen (q := 53) i (z := (3 : Int32)) da3_52 hi rfl rfl ?_
  refine C.iconst (q := 54) (z := (1 : Int32)) da3_53 rfl rfl ?_
  refine C.bipush (q := 56) (z := (10 : Int32)) da3_54 rfl rfl ?_
  refine C.callS (q := 59) 0 [.ref a, .int (0 : Int32), .int (3 : Int32), .int (1 : Int32), .int (10 : Int32)] [] da3_56 (hw _ (List.mem_of_getElem? (i := 28) rfl)) (hw _ (List.mem_of_getElem? (i := 29) rfl)) (hw _ (List.mem_of_getElem? (i := 30) rfl)) (hw _ (List.mem_of_getElem? (i := 31) rfl)) (own_cv3 l Z a0 n0 hw [] a i x0 x1 x2 H hi) (by decide) (by decide) (by decide) own_pd1 rfl rfl rfl (Nat.le_of_eq rfl) (by decide) (by decide) rfl ?_
  rintro _ _ ⟨⟨z, rfl⟩, hE⟩
  rw [hE]
  show G 0 0 H 59 [.val (.ref a)] [.int z]
  exact C.retI da3_59 (by decide) (by decide) ⟨⟨_, rfl⟩, rfl⟩
theorem dh4_0 : decode jdk_48_method_9_code 0 = .ok (.iload_n 2, 1) := by decide +kernel
theorem dh4_1 : decode jdk_48_method_9_code 1 = .ok (.iload_n 3, 1) := by decide +kernel
theorem dh4_2 : decode jdk_48_method_9_code 2 = .ok (.iadd, 1) := by decide +kernel
theorem dh4_3 : decode jdk_48_method_9_code 3 = .ok (.istore 4, 2) := by decide +kernel
theorem dh4_5 : decode jdk_48_method_9_code 5 = .ok (.iload_n 2, 1) := by decide +kernel
theorem dh4_6 : decode jdk_48_method_9_code 6 = .ok (.istore 5, 2) := by decide +kernel
theorem dh4_8 : decode jdk_48_method_9_code 8 = .ok (.iload 5, 2) := by decide +kernel
theorem dh4_10 : decode jdk_48_method_9_code 10 = .ok (.iload 4, 2) := by decide +kernel
theorem dh4_12 : decode jdk_48_method_9_code 12 = .ok (.if_icmp .ge 19, 3) := by decide +kernel
theorem dh4_15 : decode jdk_48_method_9_code 15 = .ok (.bipush 31, 2) := by decide +kernel
theorem dh4_17 : decode jdk_48_method_9_code 17 = .ok (.iload_n 0, 1) := by decide +kernel
theorem dh4_18 : decode jdk_48_method_9_code 18 = .ok (.imul, 1) := by decide +kernel
theorem dh4_19 : decode jdk_48_method_9_code 19 = .ok (.aload_n 1, 1) := by decide +kernel
theorem dh4_20 : decode jdk_48_method_9_code 20 = .ok (.iload 5, 2) := by decide +kernel
theorem dh4_22 : decode jdk_48_method_9_code 22 = .ok (.iaload, 1) := by decide +kernel
theorem dh4_23 : decode jdk_48_method_9_code 23 = .ok (.iadd, 1) := by decide +kernel
theorem dh4_24 : decode jdk_48_method_9_code 24 = .ok (.istore_n 0, 1) := by decide +kernel
theorem dh4_25 : decode jdk_48_method_9_code 25 = .ok (.iinc 5 1, 3) := by decide +kernel
theorem dh4_28 : decode jdk_48_method_9_code 28 = .ok (.goto (-20), 3) := by decide +kernel
theorem dh4_31 : decode jdk_48_method_9_code 31 = .ok (.iload_n 0, 1) := by decide +kernel
theorem dh4_32 : decode jdk_48_method_9_code 32 = .ok (.ireturn, 1) := by decide +kernel
theorem own_pnh4 : plainFor (⟨"jdk/internal/util/ArraysSupport", "hashCode", "(I[III)I"⟩ : MethodName) = true := by first | exact plainFor_of_name (by first | (simp [plainName, overriddenIn]; done) | decide +kernel) | decide +kernel
set_option maxHeartbeats 4000000 in
theorem own_efh4 (m : MethodId) (x0 : Int32) (x1 : Addr) (x2 : Int32) (x3 : Int32) : entryFrame m #[.int x0, .ref x1, .int x2, .int x3] 6 = mkF m 0 #[.val (.int x0), .val (.ref x1), .val (.int x2), .val (.int x3), .unset, .unset] [] := by first | (simp [entryFrame, mkF, argsToLocals, Value.category, maxLocals]; done) | rfl
set_option maxRecDepth 65536 in
set_option maxHeartbeats 40000000 in
theorem own_ch4 (l : Launch) (Z : State) (a0 : Array Value) (n0 : Nat) (hw : ∀ d ∈ tables_1, d.before a0 Z = true) (ws : List Jvm.Cond) (r : Int32) (a : Addr) (i : Nat) (x0 x1 x2 x3 : Int32) (H : own_Hs) (hi : H[i]? = some (a, .inl (.int, [.int x0, .int x1, .int x2, .int x3])))  :
    own_Con l Z n0 (⟨"jdk/internal/util/ArraysSupport", "hashCode", "(I[III)I"⟩ : MethodName) jdk_48_method_9_code 6 (some .int) ws ({ frames := 0, cells := 0, slots := 0, locals := 0 } : Room) #[.int r, .ref a, .int (0 : Int32), .int (4 : Int32)] H (fun v H' => (∃ z : Int32, v = some (.int z)) ∧ H' = H) := by
  refine own_con own_pnh4 (fun m_ => own_efh4 m_ r a (0 : Int32) (4 : Int32)) ?_
  intro G C
  refine C.iloadN (q := 1) dh4_0 rfl rfl ?_
  refine C.iloadN (q := 2) dh4_1 rfl rfl ?_
  refine C.iadd (q := 3) dh4_2 rfl ?_
  show G 0 0 H 3 [.val (.int r), .val (.ref a), .val (.int (0 : Int32)), .val (.int (4 : Int32)), .unset, .unset] [.int (4 : Int32)]
  refine C.istore (q := 5) (ls' := [.val (.int r), .val (.ref a), .val (.int (0 : Int32)), .val (.int (4 : Int32)), .val (.int (4 : Int32)), .unset]) dh4_3 rfl rfl ?_
  refine C.iloadN (q := 6) dh4_5 rfl rfl ?_
  refine C.istore (q := 8) (ls' := [.val (.int r), .val (.ref a), .val (.int (0 : Int32)), .val (.int (4 : Int32)), .val (.int (4 : Int32)), .val (.int (0 : Int32))]) dh4_6 rfl rfl ?_
  refine C.iload (q := 10) dh4_8 rfl rfl ?_
  refine C.iload (q := 12) dh4_10 rfl rfl ?_
  refine C.icmpGe (q := 31) (q' := 15) dh4_12 (by decide) (by decide) rfl (fun h12 => ?_) (fun h12 => absurd (by decide) h12)
  refine C.bipush (q := 17) (z := (31 : Int32)) dh4_15 rfl rfl ?_
  refine C.iloadN (q := 18) dh4_17 rfl rfl ?_
  refine C.imul (q := 19) dh4_18 rfl ?_
  refine C.aloadN (q := 20) dh4_19 rfl rfl rfl ?_
  refine C.iload (q := 22) dh4_20 rfl rfl ?_
  refine C.iaload (q := 23) i (v := .int x0) dh4_22 hi (by decide) rfl rfl ?_
  refine C.iadd (q := 24) dh4_23 rfl ?_
  refine C.istoreN (q := 25) (ls' := [.val (.int (((31 : Int32) * r) + x0)), .val (.ref a), .val (.int (0 : Int32)), .val (.int (4 : Int32)), .val (.int (4 : Int32)), .val (.int (0 : Int32))]) dh4_24 rfl rfl ?_
  refine C.iinc (q := 28) (z := (1 : Int32)) (ls' := [.val (.int (((31 : Int32) * r) + x0)), .val (.ref a), .val (.int (0 : Int32)), .val (.int (4 : Int32)), .val (.int (4 : Int32)), .val (.int ((0 : Int32) + (1 : Int32)))]) dh4_25 rfl rfl rfl rfl ?_
  show G 0 0 H 28 [.val (.int (((31 : Int32) * r) + x0)), .val (.ref a), .val (.int (0 : Int32)), .val (.int (4 : Int32)), .val (.int (4 : Int32)), .val (.int (1 : Int32))] []
  refine C.goto (q := 8) dh4_28 (by decide) (by decide) ?_
  refine C.iload (q := 10) dh4_8 rfl rfl ?_
  refine C.iload (q := 12) dh4_10 rfl rfl ?_
  refine C.icmpGe (q := 31) (q' := 15) dh4_12 (by decide) (by decide) rfl (fun h12 => ?_) (fun h12 => absurd (by decide) h12)
  refine C.bipush (q := 17) (z := (31 : Int32)) dh4_15 rfl rfl ?_
  refine C.iloadN (q := 18) dh4_17 rfl rfl ?_
  refine C.imul (q := 19) dh4_18 rfl ?_
  refine C.aloadN (q := 20) dh4_19 rfl rfl rfl ?_
  refine C.iload (q := 22) dh4_20 rfl rfl ?_
  refine C.iaload (q := 23) i (v := .int x1) dh4_22 hi (by decide) rfl rfl ?_
  refine C.iadd (q := 24) dh4_23 rfl ?_
  refine C.istoreN (q := 25) (ls' := [.val (.int (((31 : Int32) * (((31 : Int32) * r) + x0)) + x1)), .val (.ref a), .val (.int (0 : Int32)), .val (.int (4 : Int32)), .val (.int (4 : Int32)), .val (.int (1 : Int32))]) dh4_24 rfl rfl ?_
  refine C.iinc (q := 28) (z := (1 : Int32)) (ls' := [.val (.int (((31 : Int32) * (((31 : Int32) * r) + x0)) + x1)), .val (.ref a), .val (.int (0 : Int32)), .val (.int (4 : Int32)), .val (.int (4 : Int32)), .val (.int ((1 : Int32) + (1 : Int32)))]) dh4_25 rfl rfl rfl rfl ?_
  show G 0 0 H 28 [.val (.int (((31 : Int32) * (((31 : Int32) * r) + x0)) + x1)), .val (.ref a), .val (.int (0 : Int32)), .val (.int (4 : Int32)), .val (.int (4 : Int32)), .val (.int (2 : Int32))] []
  refine C.goto (q := 8) dh4_28 (by decide) (by decide) ?_
  refine C.iload (q := 10) dh4_8 rfl rfl ?_
  refine C.iload (q := 12) dh4_10 rfl rfl ?_
  refine C.icmpGe (q := 31) (q' := 15) dh4_12 (by decide) (by decide) rfl (fun h12 => ?_) (fun h12 => absurd (by decide) h12)
  refine C.bipush (q := 17) (z := (31 : Int32)) dh4_15 rfl rfl ?_
  refine C.iloadN (q := 18) dh4_17 rfl rfl ?_
  refine C.imul (q := 19) dh4_18 rfl ?_
  refine C.aloadN (q := 20) dh4_19 rfl rfl rfl ?_
  refine C.iload (q := 22) dh4_20 rfl rfl ?_
  refine C.iaload (q := 23) i (v := .int x2) dh4_22 hi (by decide) rfl rfl ?_
  refine C.iadd (q := 24) dh4_23 rfl ?_
  refine C.istoreN (q := 25) (ls' := [.val (.int (((31 : Int32) * (((31 : Int32) * (((31 : Int32) * r) + x0)) + x1)) + x2)), .val (.ref a), .val (.int (0 : Int32)), .val (.int (4 : Int32)), .val (.int (4 : Int32)), .val (.int (2 : Int32))]) dh4_24 rfl rfl ?_
  refine C.iinc (q := 28) (z := (1 : Int32)) (ls' := [.val (.int (((31 : Int32) * (((31 : Int32) * (((31 : Int32) * r) + x0)) + x1)) + x2)), .val (.ref a), .val (.int (0 : Int32)), .val (.int (4 : Int32)), .val (.int (4 : Int32)), .val (.int ((2 : Int32) + (1 : Int32)))]) dh4_25 rfl rfl rfl rfl ?_
  show G 0 0 H 28 [.val (.int (((31 : Int32) * (((31 : Int32) * (((31 : Int32) * r) + x0)) + x1)) + x2)), .val (.ref a), .val (.int (0 : Int32)), .val (.int (4 : Int32)), .val (.int (4 : Int32)), .val (.int (3 : Int32))] []
  refine C.goto (q := 8) dh4_28 (by decide) (by decide) ?_
  refine C.iload (q := 10) dh4_8 rfl rfl ?_
  refine C.iload (q := 12) dh4_10 rfl rfl ?_
  refine C.icmpGe (q := 31) (q' := 15) dh4_12 (by decide) (by decide) rfl (fun h12 => ?_) (fun h12 => absurd (by decide) h12)
  refine C.bipush (q := 17) (z := (31 : Int32)) dh4_15 rfl rfl ?_
  refine C.iloadN (q := 18) dh4_17 rfl rfl ?_
  refine C.imul (q := 19) dh4_18 rfl ?_
  refine C.aloadN (q := 20) dh4_19 rfl rfl rfl ?_
  refine C.iload (q := 22) dh4_20 rfl rfl ?_
  refine C.iaload (q := 23) i (v := .int x3) dh4_22 hi (by decide) rfl rfl ?_
  refine C.iadd (q := 24) dh4_23 rfl ?_
  refine C.istoreN (q := 25) (ls' := [.val (.int (((31 : Int32) * (((31 : Int32) * (((31 : Int32) * (((31 : Int32) * r) + x0)) + x1)) + x2)) + x3)), .val (.ref a), .val (.int (0 : Int32)), .val (.int (4 : Int32)), .val (.int (4 : Int32)), .val (.int (3 : Int32))]) dh4_24 rfl rfl ?_
  refine C.iinc (q := 28) (z := (1 : Int32)) (ls' := [.val (.int (((31 : Int32) * (((31 : Int32) * (((31 : Int32) * (((31 : Int32) * r) + x0)) + x1)) + x2)) + x3)), .val (.ref a), .val (.int (0 : Int32)), .val (.int (4 : Int32)), .val (.int (4 : Int32)), .val (.int ((3 : Int32) + (1 : Int32)))]) dh4_25 rfl rfl rfl rfl ?_
  show G 0 0 H 28 [.val (.int (((31 : Int32) * (((31 : Int32) * (((31 : Int32) * (((31 : Int32) * r) + x0)) + x1)) + x2)) + x3)), .val (.ref a), .val (.int (0 : Int32)), .val (.int (4 : Int32)), .val (.int (4 : Int32)), .val (.int (4 : Int32))] []
  refine C.goto (q := 8) dh4_28 (by decide) (by decide) ?_
  refine C.iload (q := 10) dh4_8 rfl rfl ?_
  refine C.iload (q := 12) dh4_10 rfl rfl ?_
  refine C.icmpGe (q := 31) (q' := 15) dh4_12 (by decide) (by decide) rfl (fun h12 => absurd h12 (by decide)) (fun h12 => ?_)
  refine C.iloadN (q := 32) dh4_31 rfl rfl ?_
  exact C.retI dh4_32 (by decide) (by decide) ⟨⟨_, rfl⟩, rfl⟩
theorem dv4_0 : decode jdk_48_method_4_code 0 = .ok (.iload 4, 2) := by decide +kernel
theorem dv4_2 : decode jdk_48_method_4_code 2 = .ok (.tableswitch 127 4 10 #[42, 55, 127, 127, 88, 101, 114], 42) := by decide +kernel
theorem dv4_116 : decode jdk_48_method_4_code 116 = .ok (.iload_n 3, 1) := by decide +kernel
theorem dv4_117 : decode jdk_48_method_4_code 117 = .ok (.aload_n 0, 1) := by decide +kernel
theorem dv4_118 : decode jdk_48_method_4_code 118 = .ok (.checkcast 82, 3) := by decide +kernel
theorem dv4_121 : decode jdk_48_method_4_code 121 = .ok (.iload_n 1, 1) := by decide +kernel
theorem dv4_122 : decode jdk_48_method_4_code 122 = .ok (.iload_n 2, 1) := by decide +kernel
theorem dv4_123 : decode jdk_48_method_4_code 123 = .ok (.invokestatic 84, 3) := by decide +kernel
theorem dv4_126 : decode jdk_48_method_4_code 126 = .ok (.goto 31, 3) := by decide +kernel
theorem dv4_157 : decode jdk_48_method_4_code 157 = .ok (.ireturn, 1) := by decide +kernel
theorem own_pnv4 : plainFor (⟨"jdk/internal/util/ArraysSupport", "vectorizedHashCode", "(Ljava/lang/Object;IIII)I"⟩ : MethodName) = true := by first | exact plainFor_of_name (by first | (simp [plainName, overriddenIn]; done) | decide +kernel) | decide +kernel
set_option maxHeartbeats 4000000 in
theorem own_efv4 (m : MethodId) (x0 : Addr) (x1 : Int32) (x2 : Int32) (x3 : Int32) (x4 : Int32) : entryFrame m #[.ref x0, .int x1, .int x2, .int x3, .int x4] 5 = mkF m 0 #[.val (.ref x0), .val (.int x1), .val (.int x2), .val (.int x3), .val (.int x4)] [] := by first | (simp [entryFrame, mkF, argsToLocals, Value.category, maxLocals]; done) | rfl
set_option maxRecDepth 65536 in
set_option maxHeartbeats 40000000 in
theorem own_cv4 (l : Launch) (Z : State) (a0 : Array Value) (n0 : Nat) (hw : ∀ d ∈ tables_1, d.before a0 Z = true) (ws : List Jvm.Cond) (a : Addr) (i : Nat) (x0 x1 x2 x3 : Int32) (H : own_Hs) (hi : H[i]? = some (a, .inl (.int, [.int x0, .int x1, .int x2, .int x3])))  :
    own_Con l Z n0 (⟨"jdk/internal/util/ArraysSupport", "vectorizedHashCode", "(Ljava/lang/Object;IIII)I"⟩ : MethodName) jdk_48_method_4_code 5 (some .int) ws ({ frames := 1, cells := 0, slots := 0, locals := 40 } : Room) #[.ref a, .int (0 : Int32), .int (4 : Int32), .int (1 : Int32), .int (10 : Int32)] H (fun v H' => (∃ z : Int32, v = some (.int z)) ∧ H' = H) := by
  refine own_con own_pnv4 (fun m_ => own_efv4 m_ a (0 : Int32) (4 : Int32) (1 : Int32) (10 : Int32)) ?_
  intro G C
  refine C.iload (q := 2) dv4_0 rfl rfl ?_
  refine C.tswIn (q := 116) (off := 114) dv4_2 (by decide) (by first | rfl | decide) (by decide) rfl ?_
  refine C.iloadN (q := 117) dv4_116 rfl rfl ?_
  refine C.aloadN (q := 118) dv4_117 rfl rfl rfl ?_
  refine C.castI (q := 121) i dv4_118 (hw _ (List.mem_of_getElem? (i := 32) rfl)) hi rfl ?_
  refine C.iloadN (q := 122) dv4_121 rfl rfl ?_
  refine C.iloadN (q := 123) dv4_122 rfl rfl ?_
  refine C.callS (q := 126) 0 [.int (1 : Int32), .ref a, .int (0 : Int32), .int (4 : Int32)] [] dv4_123 (hw _ (List.mem_of_getElem? (i := 33) rfl)) (hw _ (List.mem_of_getElem? (i := 34) rfl)) (hw _ (List.mem_of_getElem? (i := 30) rfl)) (hw _ (List.mem_of_getElem? (i := 35) rfl)) (own_ch4 l Z a0 n0 hw [] (1 : Int32) a i x0 x1 x2 x3 H hi) (by decide) (by decide) (by decide) own_pd0 rfl rfl rfl (Nat.le_of_eq rfl) (by decide) (by decide) rfl ?_
  rintro _ _ ⟨⟨z, rfl⟩, hE⟩
  rw [hE]
  show G 0 0 H 126 [.val (.ref a), .val (.int (0 : Int32)), .val (.int (4 : Int32)), .val (.int (1 : Int32)), .val (.int (10 : Int32))] [.int z]
  refine C.goto (q := 157) dv4_126 (by decide) (by decide) ?_
  exact C.retI dv4_157 (by decide) (by decide) ⟨⟨_, rfl⟩, rfl⟩
theorem da4_0 : decode jdk_65_method_150_code 0 = .ok (.aload_n 0, 1) := by decide +kernel
theorem da4_1 : decode jdk_65_method_150_code 1 = .ok (.ifnonnull 5, 3) := by decide +kernel
theorem da4_6 : decode jdk_65_method_150_code 6 = .ok (.aload_n 0, 1) := by decide +kernel
theorem da4_7 : decode jdk_65_method_150_code 7 = .ok (.arraylength, 1) := by decide +kernel
theorem da4_8 : decode jdk_65_method_150_code 8 = .ok (.lookupswitch 41 #[(0, 28), (1, 32)], 28) := by decide +kernel
theorem da4_49 : decode jdk_65_method_150_code 49 = .ok (.aload_n 0, 1) := by decide +kernel
theorem da4_50 : decode jdk_65_method_150_code 50 = .ok (.iconst 0, 1) := by decide +kernel
theorem da4_51 : decode jdk_65_method_150_code 51 = .ok (.aload_n 0, 1) := by decide +kernel
theorem da4_52 : decode jdk_65_method_150_code 52 = .ok (.arraylength, 1) := by decide +kernel
theorem da4_53 : decode jdk_65_method_150_code 53 = .ok (.iconst 1, 1) := by decide +kernel
theorem da4_54 : decode jdk_65_method_150_code 54 = .ok (.bipush 10, 2) := by decide +kernel
theorem da4_56 : decode jdk_65_method_150_code 56 = .ok (.invokestatic 379, 3) := by decide +kernel
theorem da4_59 : decode jdk_65_method_150_code 59 = .ok (.ireturn, 1) := by decide +kernel
theorem own_pna4 : plainFor (⟨"java/util/Arrays", "hashCode", "([I)I"⟩ : MethodName) = true := by first | exact plainFor_of_name (by first | (simp [plainName, overriddenIn]; done) | decide +kernel) | decide +kernel
set_option maxHeartbeats 4000000 in
theorem own_efa4 (m : MethodId) (x0 : Addr) : entryFrame m #[.ref x0] 1 = mkF m 0 #[.val (.ref x0)] [] := by first | (simp [entryFrame, mkF, argsToLocals, Value.category, maxLocals]; done) | rfl
set_option maxRecDepth 65536 in
set_option maxHeartbeats 40000000 in
theorem own_ca4 (l : Launch) (Z : State) (a0 : Array Value) (n0 : Nat) (hw : ∀ d ∈ tables_1, d.before a0 Z = true) (ws : List Jvm.Cond) (a : Addr) (i : Nat) (x0 x1 x2 x3 : Int32) (H : own_Hs) (hi : H[i]? = some (a, .inl (.int, [.int x0, .int x1, .int x2, .int x3])))  :
    own_Con l Z n0 (⟨"java/util/Arrays", "hashCode", "([I)I"⟩ : MethodName) jdk_65_method_150_code 1 (some .int) ws ({ frames := 2, cells := 0, slots := 0, locals := 80 } : Room) #[.ref a] H (fun v H' => (∃ z : Int32, v = some (.int z)) ∧ H' = H) := by
  refine own_con own_pna4 (fun m_ => own_efa4 m_ a) ?_
  intro G C
  refine C.aloadN (q := 1) da4_0 rfl rfl rfl ?_
  refine C.nonnullY (q := 6) da4_1 (by decide) (by decide) ?_
  refine C.aloadN (q := 7) da4_6 rfl rfl rfl ?_
  refine C.alen (q := 8) i (z := (4 : Int32)) da4_7 hi rfl rfl ?_
  refine C.lswMiss (q := 49) da4_8 (by decide) (by first | decide | rfl | decide +kernel) (by decide) rfl ?_
  refine C.aloadN (q := 50) da4_49 rfl rfl rfl ?_
  refine C.iconst (q := 51) (z := (0 : Int32)) da4_50 rfl rfl ?_
  refine C.aloadN (q := 52) da4_51 rfl rfl rfl ?_
  refine C.alen (q := 53) i (z := (4 : Int32)) da4_52 hi rfl rfl ?_
  refine C.iconst (q := 54) (z := (1 : Int32)) da4_53 rfl rfl ?_
  refine C.bipush (q := 56) (z := (10 : Int32)) da4_54 rfl rfl ?_
  refine C.callS (q := 59) 0 [.ref a, .int (0 : Int32), .int (4 : Int32), .int (1 : Int32), .int (10 : Int32)] [] da4_56 (hw _ (List.mem_of_getElem? (i := 28) rfl)) (hw _ (List.mem_of_getElem? (i := 29) rfl)) (hw _ (List.mem_of_getElem? (i := 30) rfl)) (hw _ (List.mem_of_getElem? (i := 31) rfl)) (own_cv4 l Z a0 n0 hw [] a i x0 x1 x2 x3 H hi) (by decide) (by decide) (by decide) own_pd1 rfl rfl rfl (Nat.le_of_eq rfl) (by decide) (by decide) rfl ?_
  rintro _ _ ⟨⟨z, rfl⟩, hE⟩
  rw [hE]
  show G 0 0 H 59 [.val (.ref a)] [.int z]
  exact C.retI da4_59 (by decide) (by decide) ⟨⟨_, rfl⟩, rfl⟩
theorem dr_0 : decode prog_24_method_1_code 0 = .ok (.aload_n 0, 1) := by decide +kernel
theorem dr_1 : decode prog_24_method_1_code 1 = .ok (.invokespecial 1, 3) := by decide +kernel
theorem dr_4 : decode prog_24_method_1_code 4 = .ok (.aload_n 1, 1) := by decide +kernel
theorem dr_5 : decode prog_24_method_1_code 5 = .ok (.arraylength, 1) := by decide +kernel
theorem dr_6 : decode prog_24_method_1_code 6 = .ok (.aload_n 2, 1) := by decide +kernel
theorem dr_7 : decode prog_24_method_1_code 7 = .ok (.arraylength, 1) := by decide +kernel
theorem dr_8 : decode prog_24_method_1_code 8 = .ok (.iconst 1, 1) := by decide +kernel
theorem dr_9 : decode prog_24_method_1_code 9 = .ok (.iadd, 1) := by decide +kernel
theorem dr_10 : decode prog_24_method_1_code 10 = .ok (.if_icmp .eq 20, 3) := by decide +kernel
theorem dr_30 : decode prog_24_method_1_code 30 = .ok (.aload_n 0, 1) := by decide +kernel
theorem dr_31 : decode prog_24_method_1_code 31 = .ok (.aload_n 1, 1) := by decide +kernel
theorem dr_32 : decode prog_24_method_1_code 32 = .ok (.invokevirtual 16, 3) := by decide +kernel
theorem dr_35 : decode prog_24_method_1_code 35 = .ok (.checkcast 17, 3) := by decide +kernel
theorem dr_38 : decode prog_24_method_1_code 38 = .ok (.putfield 22, 3) := by decide +kernel
theorem dr_41 : decode prog_24_method_1_code 41 = .ok (.aload_n 0, 1) := by decide +kernel
theorem dr_42 : decode prog_24_method_1_code 42 = .ok (.aload_n 2, 1) := by decide +kernel
theorem dr_43 : decode prog_24_method_1_code 43 = .ok (.invokevirtual 16, 3) := by decide +kernel
theorem dr_46 : decode prog_24_method_1_code 46 = .ok (.checkcast 17, 3) := by decide +kernel
theorem dr_49 : decode prog_24_method_1_code 49 = .ok (.putfield 27, 3) := by decide +kernel
theorem dr_52 : decode prog_24_method_1_code 52 = .ok (.aload_n 0, 1) := by decide +kernel
theorem dr_53 : decode prog_24_method_1_code 53 = .ok (.bipush 31, 2) := by decide +kernel
theorem dr_55 : decode prog_24_method_1_code 55 = .ok (.aload_n 1, 1) := by decide +kernel
theorem dr_56 : decode prog_24_method_1_code 56 = .ok (.invokestatic 30, 3) := by decide +kernel
theorem dr_59 : decode prog_24_method_1_code 59 = .ok (.imul, 1) := by decide +kernel
theorem dr_60 : decode prog_24_method_1_code 60 = .ok (.aload_n 2, 1) := by decide +kernel
theorem dr_61 : decode prog_24_method_1_code 61 = .ok (.invokestatic 30, 3) := by decide +kernel
theorem dr_64 : decode prog_24_method_1_code 64 = .ok (.iadd, 1) := by decide +kernel
theorem dr_65 : decode prog_24_method_1_code 65 = .ok (.putfield 36, 3) := by decide +kernel
theorem dr_68 : decode prog_24_method_1_code 68 = .ok (.return_, 1) := by decide +kernel
theorem own_pnr : plainFor (⟨"com/example/lambdaloom/lambdaloom/Route", "<init>", "([I[I)V"⟩ : MethodName) = true := by first | exact plainFor_of_name (by first | (simp [plainName, overriddenIn]; done) | decide +kernel) | decide +kernel
set_option maxHeartbeats 4000000 in
theorem own_efr (m : MethodId) (x0 : Addr) (x1 : Addr) (x2 : Addr) : entryFrame m #[.ref x0, .ref x1, .ref x2] 3 = mkF m 0 #[.val (.ref x0), .val (.ref x1), .val (.ref x2)] [] := by first | (simp [entryFrame, mkF, argsToLocals, Value.category, maxLocals]; done) | rfl
set_option maxRecDepth 65536 in
set_option maxHeartbeats 40000000 in
theorem own_cr (l : Launch) (Z : State) (a0 : Array Value) (n0 : Nat) (hw : ∀ d ∈ tables_1, d.before a0 Z = true) (ws : List Jvm.Cond) (o p q : Addr) (n0_ n1_ n2_ n3_ f0 f1 f2 : Int32)  :
    own_Con l Z n0 (⟨"com/example/lambdaloom/lambdaloom/Route", "<init>", "([I[I)V"⟩ : MethodName) prog_24_method_1_code 3 none ws ({ frames := 4, cells := 2, slots := 7, locals := 130 } : Room) #[.ref o, .ref p, .ref q] [(o, .inr ("com/example/lambdaloom/lambdaloom/Route", [("nodes", "[I", .null), ("fibres", "[I", .null), ("hash", "I", .int (0 : Int32))])), (p, .inl (.int, [.int n0_, .int n1_, .int n2_, .int n3_])), (q, .inl (.int, [.int f0, .int f1, .int f2]))] (fun v H' => v = none ∧ ∃ (b1 b2 : Addr) (z : Int32), H' = [(o, .inr ("com/example/lambdaloom/lambdaloom/Route", [("nodes", "[I", .ref b1), ("fibres", "[I", .ref b2), ("hash", "I", .int z)])), (p, .inl (.int, [.int n0_, .int n1_, .int n2_, .int n3_])), (q, .inl (.int, [.int f0, .int f1, .int f2])), (b1, .inl (.int, [.int n0_, .int n1_, .int n2_, .int n3_])), (b2, .inl (.int, [.int f0, .int f1, .int f2]))]) := by
  refine own_con own_pnr (fun m_ => own_efr m_ o p q) ?_
  intro G C
  refine C.aloadN (q := 1) dr_0 rfl rfl rfl ?_
  refine C.initO (q := 4) 0 dr_1 (hw _ (List.mem_of_getElem? (i := 8) rfl)) (hw _ (List.mem_of_getElem? (i := 9) rfl)) (hw _ (List.mem_of_getElem? (i := 10) rfl)) rfl (by decide) (Nat.le_of_eq rfl) (by decide) rfl ?_
  refine C.aloadN (q := 5) dr_4 rfl rfl rfl ?_
  refine C.alen (q := 6) 1 (z := (4 : Int32)) dr_5 rfl rfl rfl ?_
  refine C.aloadN (q := 7) dr_6 rfl rfl rfl ?_
  refine C.alen (q := 8) 2 (z := (3 : Int32)) dr_7 rfl rfl rfl ?_
  refine C.iconst (q := 9) (z := (1 : Int32)) dr_8 rfl rfl ?_
  refine C.iadd (q := 10) dr_9 rfl ?_
  show G 0 0 [(o, .inr ("com/example/lambdaloom/lambdaloom/Route", [("nodes", "[I", .null), ("fibres", "[I", .null), ("hash", "I", .int (0 : Int32))])), (p, .inl (.int, [.int n0_, .int n1_, .int n2_, .int n3_])), (q, .inl (.int, [.int f0, .int f1, .int f2]))] 10 [.val (.ref o), .val (.ref p), .val (.ref q)] [.int (4 : Int32), .int (4 : Int32)]
  refine C.icmpEq (q := 30) (q' := 13) dr_10 (by decide) (by decide) rfl (fun h10 => ?_) (fun h10 => absurd (by decide) h10)
  refine C.aloadN (q := 31) dr_30 rfl rfl rfl ?_
  refine C.aloadN (q := 32) dr_31 rfl rfl rfl ?_
  refine C.clone (q := 35) 1 4 1 (k' := 1) (n' := 4) dr_32 (hw _ (List.mem_of_getElem? (i := 11) rfl)) (hw _ (List.mem_of_getElem? (i := 12) rfl)) (hw _ (List.mem_of_getElem? (i := 16) rfl)) (hw _ (List.mem_of_getElem? (i := 14) rfl)) (hw _ (List.mem_of_getElem? (i := 15) rfl)) (hw _ (List.mem_of_getElem? (i := 17) rfl)) rfl (by simp) rfl (by decide) (Nat.le_of_eq rfl) (by decide) (Nat.le_of_eq rfl) (by decide) (by decide) rfl rfl rfl (fun a32 => ?_)
  show G 1 4 [(o, .inr ("com/example/lambdaloom/lambdaloom/Route", [("nodes", "[I", .null), ("fibres", "[I", .null), ("hash", "I", .int (0 : Int32))])), (p, .inl (.int, [.int n0_, .int n1_, .int n2_, .int n3_])), (q, .inl (.int, [.int f0, .int f1, .int f2])), (a32, .inl (.int, [.int n0_, .int n1_, .int n2_, .int n3_]))] 35 [.val (.ref o), .val (.ref p), .val (.ref q)] [.ref a32, .ref o]
  refine C.castI (q := 38) 3 dr_35 (hw _ (List.mem_of_getElem? (i := 18) rfl)) rfl rfl ?_
  refine C.putf (q := 41) 0 0 (ty := (.array .int)) (H' := [(o, .inr ("com/example/lambdaloom/lambdaloom/Route", [("nodes", "[I", .ref a32), ("fibres", "[I", .null), ("hash", "I", .int (0 : Int32))])), (p, .inl (.int, [.int n0_, .int n1_, .int n2_, .int n3_])), (q, .inl (.int, [.int f0, .int f1, .int f2])), (a32, .inl (.int, [.int n0_, .int n1_, .int n2_, .int n3_]))]) dr_38 (hw _ (List.mem_of_getElem? (i := 20) rfl)) (Or.inr ⟨(hw _ (List.mem_of_getElem? (i := 21) rfl)), rfl, rfl⟩) (hw _ (List.mem_of_getElem? (i := 2) rfl)) rfl rfl (by decide) rfl rfl rfl rfl ?_
  refine C.aloadN (q := 42) dr_41 rfl rfl rfl ?_
  refine C.aloadN (q := 43) dr_42 rfl rfl rfl ?_
  refine C.clone (q := 46) 1 3 2 (k' := 2) (n' := 7) dr_43 (hw _ (List.mem_of_getElem? (i := 11) rfl)) (hw _ (List.mem_of_getElem? (i := 12) rfl)) (hw _ (List.mem_of_getElem? (i := 16) rfl)) (hw _ (List.mem_of_getElem? (i := 14) rfl)) (hw _ (List.mem_of_getElem? (i := 15) rfl)) (hw _ (List.mem_of_getElem? (i := 17) rfl)) rfl (by simp) rfl (by decide) (Nat.le_of_eq rfl) (by decide) (Nat.le_of_eq rfl) (by decide) (by decide) rfl rfl rfl (fun a43 => ?_)
  show G 2 7 [(o, .inr ("com/example/lambdaloom/lambdaloom/Route", [("nodes", "[I", .ref a32), ("fibres", "[I", .null), ("hash", "I", .int (0 : Int32))])), (p, .inl (.int, [.int n0_, .int n1_, .int n2_, .int n3_])), (q, .inl (.int, [.int f0, .int f1, .int f2])), (a32, .inl (.int, [.int n0_, .int n1_, .int n2_, .int n3_])), (a43, .inl (.int, [.int f0, .int f1, .int f2]))] 46 [.val (.ref o), .val (.ref p), .val (.ref q)] [.ref a43, .ref o]
  refine C.castI (q := 49) 4 dr_46 (hw _ (List.mem_of_getElem? (i := 18) rfl)) rfl rfl ?_
  refine C.putf (q := 52) 0 1 (ty := (.array .int)) (H' := [(o, .inr ("com/example/lambdaloom/lambdaloom/Route", [("nodes", "[I", .ref a32), ("fibres", "[I", .ref a43), ("hash", "I", .int (0 : Int32))])), (p, .inl (.int, [.int n0_, .int n1_, .int n2_, .int n3_])), (q, .inl (.int, [.int f0, .int f1, .int f2])), (a32, .inl (.int, [.int n0_, .int n1_, .int n2_, .int n3_])), (a43, .inl (.int, [.int f0, .int f1, .int f2]))]) dr_49 (hw _ (List.mem_of_getElem? (i := 22) rfl)) (Or.inr ⟨(hw _ (List.mem_of_getElem? (i := 23) rfl)), rfl, rfl⟩) (hw _ (List.mem_of_getElem? (i := 2) rfl)) rfl rfl (by decide) rfl rfl rfl rfl ?_
  refine C.aloadN (q := 53) dr_52 rfl rfl rfl ?_
  refine C.bipush (q := 55) (z := (31 : Int32)) dr_53 rfl rfl ?_
  refine C.aloadN (q := 56) dr_55 rfl rfl rfl ?_
  refine C.callS (q := 59) 2 [.ref p] [.int (31 : Int32), .ref o] dr_56 (hw _ (List.mem_of_getElem? (i := 24) rfl)) (hw _ (List.mem_of_getElem? (i := 25) rfl)) (hw _ (List.mem_of_getElem? (i := 26) rfl)) (hw _ (List.mem_of_getElem? (i := 27) rfl)) (own_ca4 l Z a0 n0 hw [] p 1 n0_ n1_ n2_ n3_ [(o, .inr ("com/example/lambdaloom/lambdaloom/Route", [("nodes", "[I", .ref a32), ("fibres", "[I", .ref a43), ("hash", "I", .int (0 : Int32))])), (p, .inl (.int, [.int n0_, .int n1_, .int n2_, .int n3_])), (q, .inl (.int, [.int f0, .int f1, .int f2])), (a32, .inl (.int, [.int n0_, .int n1_, .int n2_, .int n3_])), (a43, .inl (.int, [.int f0, .int f1, .int f2]))] rfl) (by decide) (by decide) (by decide) own_pd2 rfl rfl rfl (Nat.le_of_eq rfl) (by decide) (by decide) rfl ?_
  rintro _ _ ⟨⟨z56, rfl⟩, hE⟩
  rw [hE]
  show G 2 7 [(o, .inr ("com/example/lambdaloom/lambdaloom/Route", [("nodes", "[I", .ref a32), ("fibres", "[I", .ref a43), ("hash", "I", .int (0 : Int32))])), (p, .inl (.int, [.int n0_, .int n1_, .int n2_, .int n3_])), (q, .inl (.int, [.int f0, .int f1, .int f2])), (a32, .inl (.int, [.int n0_, .int n1_, .int n2_, .int n3_])), (a43, .inl (.int, [.int f0, .int f1, .int f2]))] 59 [.val (.ref o), .val (.ref p), .val (.ref q)] [.int z56, .int (31 : Int32), .ref o]
  refine C.imul (q := 60) dr_59 rfl ?_
  refine C.aloadN (q := 61) dr_60 rfl rfl rfl ?_
  refine C.callS (q := 64) 2 [.ref q] [.int ((31 : Int32) * z56), .ref o] dr_61 (hw _ (List.mem_of_getElem? (i := 24) rfl)) (hw _ (List.mem_of_getElem? (i := 25) rfl)) (hw _ (List.mem_of_getElem? (i := 26) rfl)) (hw _ (List.mem_of_getElem? (i := 27) rfl)) (own_ca3 l Z a0 n0 hw [] q 2 f0 f1 f2 [(o, .inr ("com/example/lambdaloom/lambdaloom/Route", [("nodes", "[I", .ref a32), ("fibres", "[I", .ref a43), ("hash", "I", .int (0 : Int32))])), (p, .inl (.int, [.int n0_, .int n1_, .int n2_, .int n3_])), (q, .inl (.int, [.int f0, .int f1, .int f2])), (a32, .inl (.int, [.int n0_, .int n1_, .int n2_, .int n3_])), (a43, .inl (.int, [.int f0, .int f1, .int f2]))] rfl) (by decide) (by decide) (by decide) own_pd2 rfl rfl rfl (Nat.le_of_eq rfl) (by decide) (by decide) rfl ?_
  rintro _ _ ⟨⟨z61, rfl⟩, hE⟩
  rw [hE]
  show G 2 7 [(o, .inr ("com/example/lambdaloom/lambdaloom/Route", [("nodes", "[I", .ref a32), ("fibres", "[I", .ref a43), ("hash", "I", .int (0 : Int32))])), (p, .inl (.int, [.int n0_, .int n1_, .int n2_, .int n3_])), (q, .inl (.int, [.int f0, .int f1, .int f2])), (a32, .inl (.int, [.int n0_, .int n1_, .int n2_, .int n3_])), (a43, .inl (.int, [.int f0, .int f1, .int f2]))] 64 [.val (.ref o), .val (.ref p), .val (.ref q)] [.int z61, .int ((31 : Int32) * z56), .ref o]
  refine C.iadd (q := 65) dr_64 rfl ?_
  refine C.putf (q := 68) 0 2 (ty := .int) (H' := [(o, .inr ("com/example/lambdaloom/lambdaloom/Route", [("nodes", "[I", .ref a32), ("fibres", "[I", .ref a43), ("hash", "I", .int (((31 : Int32) * z56) + z61))])), (p, .inl (.int, [.int n0_, .int n1_, .int n2_, .int n3_])), (q, .inl (.int, [.int f0, .int f1, .int f2])), (a32, .inl (.int, [.int n0_, .int n1_, .int n2_, .int n3_])), (a43, .inl (.int, [.int f0, .int f1, .int f2]))]) dr_65 (hw _ (List.mem_of_getElem? (i := 36) rfl)) (Or.inr ⟨(hw _ (List.mem_of_getElem? (i := 37) rfl)), rfl, rfl⟩) (hw _ (List.mem_of_getElem? (i := 2) rfl)) rfl rfl (by decide) rfl rfl rfl rfl ?_
  exact C.retV dr_68 (by decide) (by decide) ⟨rfl, _, _, _, rfl⟩
theorem dk_0 : decode prog_24_method_2_code 0 = .ok (.aload_n 0, 1) := by decide +kernel
theorem dk_1 : decode prog_24_method_2_code 1 = .ok (.getfield 27, 3) := by decide +kernel
theorem dk_4 : decode prog_24_method_2_code 4 = .ok (.arraylength, 1) := by decide +kernel
theorem dk_5 : decode prog_24_method_2_code 5 = .ok (.ireturn, 1) := by decide +kernel
theorem own_pnk : plainFor (⟨"com/example/lambdaloom/lambdaloom/Route", "hops", "()I"⟩ : MethodName) = true := by first | exact plainFor_of_name (by first | (simp [plainName, overriddenIn]; done) | decide +kernel) | decide +kernel
set_option maxHeartbeats 4000000 in
theorem own_efk (m : MethodId) (x0 : Addr) : entryFrame m #[.ref x0] 1 = mkF m 0 #[.val (.ref x0)] [] := by first | (simp [entryFrame, mkF, argsToLocals, Value.category, maxLocals]; done) | rfl
set_option maxRecDepth 65536 in
set_option maxHeartbeats 40000000 in
theorem own_ck (l : Launch) (Z : State) (a0 : Array Value) (n0 : Nat) (hw : ∀ d ∈ tables_1, d.before a0 Z = true) (ws : List Jvm.Cond) (o b1 b2 : Addr) (z : Int32) (e1 e2 e3 : Addr × own_Ob) (f0 f1 f2 : Int32) (Hr : own_Hs)  :
    own_Con l Z n0 (⟨"com/example/lambdaloom/lambdaloom/Route", "hops", "()I"⟩ : MethodName) prog_24_method_2_code 1 (some .int) ws ({ frames := 0, cells := 0, slots := 0, locals := 0 } : Room) #[.ref o] ((o, .inr ("com/example/lambdaloom/lambdaloom/Route", [("nodes", "[I", .ref b1), ("fibres", "[I", .ref b2), ("hash", "I", .int z)])) :: e1 :: e2 :: e3 :: (b2, .inl (.int, [.int f0, .int f1, .int f2])) :: Hr) (fun v H' => v = some (.int 3) ∧ H' = ((o, .inr ("com/example/lambdaloom/lambdaloom/Route", [("nodes", "[I", .ref b1), ("fibres", "[I", .ref b2), ("hash", "I", .int z)])) :: e1 :: e2 :: e3 :: (b2, .inl (.int, [.int f0, .int f1, .int f2])) :: Hr)) := by
  refine own_con own_pnk (fun m_ => own_efk m_ o) ?_
  intro G C
  refine C.aloadN (q := 1) dk_0 rfl rfl rfl ?_
  refine C.getf (q := 4) 0 1 (v := .ref b2) dk_1 (hw _ (List.mem_of_getElem? (i := 22) rfl)) rfl rfl rfl ?_
  refine C.alen (q := 5) 4 (z := (3 : Int32)) dk_4 rfl rfl rfl ?_
  exact C.retI dk_5 (by decide) (by decide) ⟨rfl, rfl⟩
theorem dg_0 : decode prog_24_method_6_code 0 = .ok (.aload_n 0, 1) := by decide +kernel
theorem dg_1 : decode prog_24_method_6_code 1 = .ok (.getfield 36, 3) := by decide +kernel
theorem dg_4 : decode prog_24_method_6_code 4 = .ok (.ireturn, 1) := by decide +kernel
theorem own_png : plainFor (⟨"com/example/lambdaloom/lambdaloom/Route", "hashCode", "()I"⟩ : MethodName) = true := by first | exact plainFor_of_name (by first | (simp [plainName, overriddenIn]; done) | decide +kernel) | decide +kernel
set_option maxHeartbeats 4000000 in
theorem own_efg (m : MethodId) (x0 : Addr) : entryFrame m #[.ref x0] 1 = mkF m 0 #[.val (.ref x0)] [] := by first | (simp [entryFrame, mkF, argsToLocals, Value.category, maxLocals]; done) | rfl
set_option maxRecDepth 65536 in
set_option maxHeartbeats 40000000 in
theorem own_cg (l : Launch) (Z : State) (a0 : Array Value) (n0 : Nat) (hw : ∀ d ∈ tables_1, d.before a0 Z = true) (ws : List Jvm.Cond) (o b1 b2 : Addr) (z : Int32) (Hr : own_Hs)  :
    own_Con l Z n0 (⟨"com/example/lambdaloom/lambdaloom/Route", "hashCode", "()I"⟩ : MethodName) prog_24_method_6_code 1 (some .int) ws ({ frames := 0, cells := 0, slots := 0, locals := 0 } : Room) #[.ref o] ((o, .inr ("com/example/lambdaloom/lambdaloom/Route", [("nodes", "[I", .ref b1), ("fibres", "[I", .ref b2), ("hash", "I", .int z)])) :: Hr) (fun v H' => v = some (.int z) ∧ H' = ((o, .inr ("com/example/lambdaloom/lambdaloom/Route", [("nodes", "[I", .ref b1), ("fibres", "[I", .ref b2), ("hash", "I", .int z)])) :: Hr)) := by
  refine own_con own_png (fun m_ => own_efg m_ o) ?_
  intro G C
  refine C.aloadN (q := 1) dg_0 rfl rfl rfl ?_
  refine C.getf (q := 4) 0 2 (v := .int z) dg_1 (hw _ (List.mem_of_getElem? (i := 36) rfl)) rfl rfl rfl ?_
  exact C.retI dg_4 (by decide) (by decide) ⟨rfl, rfl⟩
theorem dl_0 : decode prog_17_method_1_code 0 = .ok (.aload_n 0, 1) := by decide +kernel
theorem dl_1 : decode prog_17_method_1_code 1 = .ok (.invokespecial 1, 3) := by decide +kernel
theorem dl_4 : decode prog_17_method_1_code 4 = .ok (.aload_n 2, 1) := by decide +kernel
theorem dl_5 : decode prog_17_method_1_code 5 = .ok (.arraylength, 1) := by decide +kernel
theorem dl_6 : decode prog_17_method_1_code 6 = .ok (.aload_n 1, 1) := by decide +kernel
theorem dl_7 : decode prog_17_method_1_code 7 = .ok (.invokevirtual 7, 3) := by decide +kernel
theorem dl_10 : decode prog_17_method_1_code 10 = .ok (.if_icmp .eq 22, 3) := by decide +kernel
theorem dl_32 : decode prog_17_method_1_code 32 = .ok (.aload_n 2, 1) := by decide +kernel
theorem dl_33 : decode prog_17_method_1_code 33 = .ok (.astore_n 3, 1) := by decide +kernel
theorem dl_34 : decode prog_17_method_1_code 34 = .ok (.aload_n 3, 1) := by decide +kernel
theorem dl_35 : decode prog_17_method_1_code 35 = .ok (.arraylength, 1) := by decide +kernel
theorem dl_36 : decode prog_17_method_1_code 36 = .ok (.istore 4, 2) := by decide +kernel
theorem dl_38 : decode prog_17_method_1_code 38 = .ok (.iconst 0, 1) := by decide +kernel
theorem dl_39 : decode prog_17_method_1_code 39 = .ok (.istore 5, 2) := by decide +kernel
theorem dl_41 : decode prog_17_method_1_code 41 = .ok (.iload 5, 2) := by decide +kernel
theorem dl_43 : decode prog_17_method_1_code 43 = .ok (.iload 4, 2) := by decide +kernel
theorem dl_45 : decode prog_17_method_1_code 45 = .ok (.if_icmp .ge 35, 3) := by decide +kernel
theorem dl_48 : decode prog_17_method_1_code 48 = .ok (.aload_n 3, 1) := by decide +kernel
theorem dl_49 : decode prog_17_method_1_code 49 = .ok (.iload 5, 2) := by decide +kernel
theorem dl_51 : decode prog_17_method_1_code 51 = .ok (.iaload, 1) := by decide +kernel
theorem dl_52 : decode prog_17_method_1_code 52 = .ok (.istore 6, 2) := by decide +kernel
theorem dl_54 : decode prog_17_method_1_code 54 = .ok (.iload 6, 2) := by decide +kernel
theorem dl_56 : decode prog_17_method_1_code 56 = .ok (.ifCond .ge 18, 3) := by decide +kernel
theorem dl_74 : decode prog_17_method_1_code 74 = .ok (.iinc 5 1, 3) := by decide +kernel
theorem dl_77 : decode prog_17_method_1_code 77 = .ok (.goto (-36), 3) := by decide +kernel
theorem dl_80 : decode prog_17_method_1_code 80 = .ok (.aload_n 0, 1) := by decide +kernel
theorem dl_81 : decode prog_17_method_1_code 81 = .ok (.aload_n 1, 1) := by decide +kernel
theorem dl_82 : decode prog_17_method_1_code 82 = .ok (.putfield 25, 3) := by decide +kernel
theorem dl_85 : decode prog_17_method_1_code 85 = .ok (.aload_n 0, 1) := by decide +kernel
theorem dl_86 : decode prog_17_method_1_code 86 = .ok (.aload_n 2, 1) := by decide +kernel
theorem dl_87 : decode prog_17_method_1_code 87 = .ok (.invokevirtual 31, 3) := by decide +kernel
theorem dl_90 : decode prog_17_method_1_code 90 = .ok (.checkcast 32, 3) := by decide +kernel
theorem dl_93 : decode prog_17_method_1_code 93 = .ok (.putfield 37, 3) := by decide +kernel
theorem dl_96 : decode prog_17_method_1_code 96 = .ok (.aload_n 0, 1) := by decide +kernel
theorem dl_97 : decode prog_17_method_1_code 97 = .ok (.bipush 31, 2) := by decide +kernel
theorem dl_99 : decode prog_17_method_1_code 99 = .ok (.aload_n 1, 1) := by decide +kernel
theorem dl_100 : decode prog_17_method_1_code 100 = .ok (.invokevirtual 40, 3) := by decide +kernel
theorem dl_103 : decode prog_17_method_1_code 103 = .ok (.imul, 1) := by decide +kernel
theorem dl_104 : decode prog_17_method_1_code 104 = .ok (.aload_n 2, 1) := by decide +kernel
theorem dl_105 : decode prog_17_method_1_code 105 = .ok (.invokestatic 43, 3) := by decide +kernel
theorem dl_108 : decode prog_17_method_1_code 108 = .ok (.iadd, 1) := by decide +kernel
theorem dl_109 : decode prog_17_method_1_code 109 = .ok (.putfield 48, 3) := by decide +kernel
theorem dl_112 : decode prog_17_method_1_code 112 = .ok (.return_, 1) := by decide +kernel
theorem own_pnl : plainFor (⟨"com/example/lambdaloom/lambdaloom/Lightpath", "<init>", "(Lcom/example/lambdaloom/lambdaloom/Route;[I)V"⟩ : MethodName) = true := by first | exact plainFor_of_name (by first | (simp [plainName, overriddenIn]; done) | decide +kernel) | decide +kernel
set_option maxHeartbeats 4000000 in
theorem own_efl (m : MethodId) (x0 : Addr) (x1 : Addr) (x2 : Addr) : entryFrame m #[.ref x0, .ref x1, .ref x2] 7 = mkF m 0 #[.val (.ref x0), .val (.ref x1), .val (.ref x2), .unset, .unset, .unset, .unset] [] := by first | (simp [entryFrame, mkF, argsToLocals, Value.category, maxLocals]; done) | rfl
set_option maxRecDepth 65536 in
set_option maxHeartbeats 40000000 in
theorem own_cl (l : Launch) (Z : State) (a0 : Array Value) (n0 : Nat) (hw : ∀ d ∈ tables_1, d.before a0 Z = true) (ws : List Jvm.Cond) (o r p q b1 b2 w : Addr) (z n0_ n1_ n2_ n3_ f0 f1 f2 w0 w1 w2 : Int32) (q0 : ¬ w0 < 0) (q1 : ¬ w1 < 0) (q2 : ¬ w2 < 0) :
    own_Con l Z n0 (⟨"com/example/lambdaloom/lambdaloom/Lightpath", "<init>", "(Lcom/example/lambdaloom/lambdaloom/Route;[I)V"⟩ : MethodName) prog_17_method_1_code 7 none ws ({ frames := 4, cells := 1, slots := 3, locals := 130 } : Room) #[.ref o, .ref r, .ref w] [(r, .inr ("com/example/lambdaloom/lambdaloom/Route", [("nodes", "[I", .ref b1), ("fibres", "[I", .ref b2), ("hash", "I", .int z)])), (p, .inl (.int, [.int n0_, .int n1_, .int n2_, .int n3_])), (q, .inl (.int, [.int f0, .int f1, .int f2])), (b1, .inl (.int, [.int n0_, .int n1_, .int n2_, .int n3_])), (b2, .inl (.int, [.int f0, .int f1, .int f2])), (w, .inl (.int, [.int w0, .int w1, .int w2])), (o, .inr ("com/example/lambdaloom/lambdaloom/Lightpath", [("route", "Lcom/example/lambdaloom/lambdaloom/Route;", .null), ("wavelengths", "[I", .null), ("hash", "I", .int (0 : Int32))]))] (fun v H' => v = none ∧ ∃ (b : Addr) (y : Int32), H' = [(r, .inr ("com/example/lambdaloom/lambdaloom/Route", [("nodes", "[I", .ref b1), ("fibres", "[I", .ref b2), ("hash", "I", .int z)])), (p, .inl (.int, [.int n0_, .int n1_, .int n2_, .int n3_])), (q, .inl (.int, [.int f0, .int f1, .int f2])), (b1, .inl (.int, [.int n0_, .int n1_, .int n2_, .int n3_])), (b2, .inl (.int, [.int f0, .int f1, .int f2])), (w, .inl (.int, [.int w0, .int w1, .int w2])), (o, .inr ("com/example/lambdaloom/lambdaloom/Lightpath", [("route", "Lcom/example/lambdaloom/lambdaloom/Route;", .ref r), ("wavelengths", "[I", .ref b), ("hash", "I", .int y)])), (b, .inl (.int, [.int w0, .int w1, .int w2]))]) := by
  refine own_con own_pnl (fun m_ => own_efl m_ o r w) ?_
  intro G C
  refine C.aloadN (q := 1) dl_0 rfl rfl rfl ?_
  refine C.initO (q := 4) 0 dl_1 (hw _ (List.mem_of_getElem? (i := 44) rfl)) (hw _ (List.mem_of_getElem? (i := 9) rfl)) (hw _ (List.mem_of_getElem? (i := 10) rfl)) rfl (by decide) (Nat.le_of_eq rfl) (by decide) rfl ?_
  refine C.aloadN (q := 5) dl_4 rfl rfl rfl ?_
  refine C.alen (q := 6) 5 (z := (3 : Int32)) dl_5 rfl rfl rfl ?_
  refine C.aloadN (q := 7) dl_6 rfl rfl rfl ?_
  refine C.callV (q := 10) 1 0 [] [.int (3 : Int32)] dl_7 (hw _ (List.mem_of_getElem? (i := 45) rfl)) (hw _ (List.mem_of_getElem? (i := 46) rfl)) (hw _ (List.mem_of_getElem? (i := 47) rfl)) (hw _ (List.mem_of_getElem? (i := 48) rfl)) (hw _ (List.mem_of_getElem? (i := 3) rfl)) (hw _ (List.mem_of_getElem? (i := 49) rfl)) (own_ck l Z a0 n0 hw [] r b1 b2 z _ _ _ f0 f1 f2 _) (by decide) (by decide) (by decide) own_pd3 rfl rfl rfl rfl (Nat.le_of_eq rfl) (by decide) (by decide) rfl ?_
  rintro _ _ ⟨rfl, hE⟩
  rw [hE]
  show G 0 0 [(r, .inr ("com/example/lambdaloom/lambdaloom/Route", [("nodes", "[I", .ref b1), ("fibres", "[I", .ref b2), ("hash", "I", .int z)])), (p, .inl (.int, [.int n0_, .int n1_, .int n2_, .int n3_])), (q, .inl (.int, [.int f0, .int f1, .int f2])), (b1, .inl (.int, [.int n0_, .int n1_, .int n2_, .int n3_])), (b2, .inl (.int, [.int f0, .int f1, .int f2])), (w, .inl (.int, [.int w0, .int w1, .int w2])), (o, .inr ("com/example/lambdaloom/lambdaloom/Lightpath", [("route", "Lcom/example/lambdaloom/lambdaloom/Route;", .null), ("wavelengths", "[I", .null), ("hash", "I", .int (0 : Int32))]))] 10 [.val (.ref o), .val (.ref r), .val (.ref w), .unset, .unset, .unset, .unset] [.int (3 : Int32), .int (3 : Int32)]
  refine C.icmpEq (q := 32) (q' := 13) dl_10 (by decide) (by decide) rfl (fun h10 => ?_) (fun h10 => absurd (by decide) h10)
  refine C.aloadN (q := 33) dl_32 rfl rfl rfl ?_
  refine C.astoreN (q := 34) (ls' := [.val (.ref o), .val (.ref r), .val (.ref w), .val (.ref w), .unset, .unset, .unset]) dl_33 rfl rfl rfl ?_
  refine C.aloadN (q := 35) dl_34 rfl rfl rfl ?_
  refine C.alen (q := 36) 5 (z := (3 : Int32)) dl_35 rfl rfl rfl ?_
  refine C.istore (q := 38) (ls' := [.val (.ref o), .val (.ref r), .val (.ref w), .val (.ref w), .val (.int (3 : Int32)), .unset, .unset]) dl_36 rfl rfl ?_
  refine C.iconst (q := 39) (z := (0 : Int32)) dl_38 rfl rfl ?_
  refine C.istore (q := 41) (ls' := [.val (.ref o), .val (.ref r), .val (.ref w), .val (.ref w), .val (.int (3 : Int32)), .val (.int (0 : Int32)), .unset]) dl_39 rfl rfl ?_
  refine C.iload (q := 43) dl_41 rfl rfl ?_
  refine C.iload (q := 45) dl_43 rfl rfl ?_
  refine C.icmpGe (q := 80) (q' := 48) dl_45 (by decide) (by decide) rfl (fun h45 => ?_) (fun h45 => absurd (by decide) h45)
  refine C.aloadN (q := 49) dl_48 rfl rfl rfl ?_
  refine C.iload (q := 51) dl_49 rfl rfl ?_
  refine C.iaload (q := 52) 5 (v := .int w0) dl_51 rfl (by decide) rfl rfl ?_
  refine C.istore (q := 54) (ls' := [.val (.ref o), .val (.ref r), .val (.ref w), .val (.ref w), .val (.int (3 : Int32)), .val (.int (0 : Int32)), .val (.int w0)]) dl_52 rfl rfl ?_
  refine C.iload (q := 56) dl_54 rfl rfl ?_
  refine C.ifGe (q := 74) (q' := 59) dl_56 (by decide) (by decide) rfl (fun h56 => absurd h56 (by first | exact q0 | exact q1 | exact q2)) (fun h56 => ?_)
  refine C.iinc (q := 77) (z := (1 : Int32)) (ls' := [.val (.ref o), .val (.ref r), .val (.ref w), .val (.ref w), .val (.int (3 : Int32)), .val (.int ((0 : Int32) + (1 : Int32))), .val (.int w0)]) dl_74 rfl rfl rfl rfl ?_
  show G 0 0 [(r, .inr ("com/example/lambdaloom/lambdaloom/Route", [("nodes", "[I", .ref b1), ("fibres", "[I", .ref b2), ("hash", "I", .int z)])), (p, .inl (.int, [.int n0_, .int n1_, .int n2_, .int n3_])), (q, .inl (.int, [.int f0, .int f1, .int f2])), (b1, .inl (.int, [.int n0_, .int n1_, .int n2_, .int n3_])), (b2, .inl (.int, [.int f0, .int f1, .int f2])), (w, .inl (.int, [.int w0, .int w1, .int w2])), (o, .inr ("com/example/lambdaloom/lambdaloom/Lightpath", [("route", "Lcom/example/lambdaloom/lambdaloom/Route;", .null), ("wavelengths", "[I", .null), ("hash", "I", .int (0 : Int32))]))] 77 [.val (.ref o), .val (.ref r), .val (.ref w), .val (.ref w), .val (.int (3 : Int32)), .val (.int (1 : Int32)), .val (.int w0)] []
  refine C.goto (q := 41) dl_77 (by decide) (by decide) ?_
  refine C.iload (q := 43) dl_41 rfl rfl ?_
  refine C.iload (q := 45) dl_43 rfl rfl ?_
  refine C.icmpGe (q := 80) (q' := 48) dl_45 (by decide) (by decide) rfl (fun h45 => ?_) (fun h45 => absurd (by decide) h45)
  refine C.aloadN (q := 49) dl_48 rfl rfl rfl ?_
  refine C.iload (q := 51) dl_49 rfl rfl ?_
  refine C.iaload (q := 52) 5 (v := .int w1) dl_51 rfl (by decide) rfl rfl ?_
  refine C.istore (q := 54) (ls' := [.val (.ref o), .val (.ref r), .val (.ref w), .val (.ref w), .val (.int (3 : Int32)), .val (.int (1 : Int32)), .val (.int w1)]) dl_52 rfl rfl ?_
  refine C.iload (q := 56) dl_54 rfl rfl ?_
  refine C.ifGe (q := 74) (q' := 59) dl_56 (by decide) (by decide) rfl (fun h56 => absurd h56 (by first | exact q0 | exact q1 | exact q2)) (fun h56 => ?_)
  refine C.iinc (q := 77) (z := (1 : Int32)) (ls' := [.val (.ref o), .val (.ref r), .val (.ref w), .val (.ref w), .val (.int (3 : Int32)), .val (.int ((1 : Int32) + (1 : Int32))), .val (.int w1)]) dl_74 rfl rfl rfl rfl ?_
  show G 0 0 [(r, .inr ("com/example/lambdaloom/lambdaloom/Route", [("nodes", "[I", .ref b1), ("fibres", "[I", .ref b2), ("hash", "I", .int z)])), (p, .inl (.int, [.int n0_, .int n1_, .int n2_, .int n3_])), (q, .inl (.int, [.int f0, .int f1, .int f2])), (b1, .inl (.int, [.int n0_, .int n1_, .int n2_, .int n3_])), (b2, .inl (.int, [.int f0, .int f1, .int f2])), (w, .inl (.int, [.int w0, .int w1, .int w2])), (o, .inr ("com/example/lambdaloom/lambdaloom/Lightpath", [("route", "Lcom/example/lambdaloom/lambdaloom/Route;", .null), ("wavelengths", "[I", .null), ("hash", "I", .int (0 : Int32))]))] 77 [.val (.ref o), .val (.ref r), .val (.ref w), .val (.ref w), .val (.int (3 : Int32)), .val (.int (2 : Int32)), .val (.int w1)] []
  refine C.goto (q := 41) dl_77 (by decide) (by decide) ?_
  refine C.iload (q := 43) dl_41 rfl rfl ?_
  refine C.iload (q := 45) dl_43 rfl rfl ?_
  refine C.icmpGe (q := 80) (q' := 48) dl_45 (by decide) (by decide) rfl (fun h45 => ?_) (fun h45 => absurd (by decide) h45)
  refine C.aloadN (q := 49) dl_48 rfl rfl rfl ?_
  refine C.iload (q := 51) dl_49 rfl rfl ?_
  refine C.iaload (q := 52) 5 (v := .int w2) dl_51 rfl (by decide) rfl rfl ?_
  refine C.istore (q := 54) (ls' := [.val (.ref o), .val (.ref r), .val (.ref w), .val (.ref w), .val (.int (3 : Int32)), .val (.int (2 : Int32)), .val (.int w2)]) dl_52 rfl rfl ?_
  refine C.iload (q := 56) dl_54 rfl rfl ?_
  refine C.ifGe (q := 74) (q' := 59) dl_56 (by decide) (by decide) rfl (fun h56 => absurd h56 (by first | exact q0 | exact q1 | exact q2)) (fun h56 => ?_)
  refine C.iinc (q := 77) (z := (1 : Int32)) (ls' := [.val (.ref o), .val (.ref r), .val (.ref w), .val (.ref w), .val (.int (3 : Int32)), .val (.int ((2 : Int32) + (1 : Int32))), .val (.int w2)]) dl_74 rfl rfl rfl rfl ?_
  show G 0 0 [(r, .inr ("com/example/lambdaloom/lambdaloom/Route", [("nodes", "[I", .ref b1), ("fibres", "[I", .ref b2), ("hash", "I", .int z)])), (p, .inl (.int, [.int n0_, .int n1_, .int n2_, .int n3_])), (q, .inl (.int, [.int f0, .int f1, .int f2])), (b1, .inl (.int, [.int n0_, .int n1_, .int n2_, .int n3_])), (b2, .inl (.int, [.int f0, .int f1, .int f2])), (w, .inl (.int, [.int w0, .int w1, .int w2])), (o, .inr ("com/example/lambdaloom/lambdaloom/Lightpath", [("route", "Lcom/example/lambdaloom/lambdaloom/Route;", .null), ("wavelengths", "[I", .null), ("hash", "I", .int (0 : Int32))]))] 77 [.val (.ref o), .val (.ref r), .val (.ref w), .val (.ref w), .val (.int (3 : Int32)), .val (.int (3 : Int32)), .val (.int w2)] []
  refine C.goto (q := 41) dl_77 (by decide) (by decide) ?_
  refine C.iload (q := 43) dl_41 rfl rfl ?_
  refine C.iload (q := 45) dl_43 rfl rfl ?_
  refine C.icmpGe (q := 80) (q' := 48) dl_45 (by decide) (by decide) rfl (fun h45 => absurd h45 (by decide)) (fun h45 => ?_)
  refine C.aloadN (q := 81) dl_80 rfl rfl rfl ?_
  refine C.aloadN (q := 82) dl_81 rfl rfl rfl ?_
  refine C.putf (q := 85) 6 0 (ty := (.object "com/example/lambdaloom/lambdaloom/Route")) (H' := [(r, .inr ("com/example/lambdaloom/lambdaloom/Route", [("nodes", "[I", .ref b1), ("fibres", "[I", .ref b2), ("hash", "I", .int z)])), (p, .inl (.int, [.int n0_, .int n1_, .int n2_, .int n3_])), (q, .inl (.int, [.int f0, .int f1, .int f2])), (b1, .inl (.int, [.int n0_, .int n1_, .int n2_, .int n3_])), (b2, .inl (.int, [.int f0, .int f1, .int f2])), (w, .inl (.int, [.int w0, .int w1, .int w2])), (o, .inr ("com/example/lambdaloom/lambdaloom/Lightpath", [("route", "Lcom/example/lambdaloom/lambdaloom/Route;", .ref r), ("wavelengths", "[I", .null), ("hash", "I", .int (0 : Int32))]))]) dl_82 (hw _ (List.mem_of_getElem? (i := 50) rfl)) (Or.inr ⟨(hw _ (List.mem_of_getElem? (i := 51) rfl)), rfl, rfl⟩) (hw _ (List.mem_of_getElem? (i := 39) rfl)) rfl rfl (by decide) rfl rfl rfl rfl ?_
  refine C.aloadN (q := 86) dl_85 rfl rfl rfl ?_
  refine C.aloadN (q := 87) dl_86 rfl rfl rfl ?_
  refine C.clone (q := 90) 1 3 5 (k' := 1) (n' := 3) dl_87 (hw _ (List.mem_of_getElem? (i := 52) rfl)) (hw _ (List.mem_of_getElem? (i := 12) rfl)) (hw _ (List.mem_of_getElem? (i := 16) rfl)) (hw _ (List.mem_of_getElem? (i := 14) rfl)) (hw _ (List.mem_of_getElem? (i := 15) rfl)) (hw _ (List.mem_of_getElem? (i := 17) rfl)) rfl (by simp) rfl (by decide) (Nat.le_of_eq rfl) (by decide) (Nat.le_of_eq rfl) (by decide) (by decide) rfl rfl rfl (fun a87 => ?_)
  show G 1 3 [(r, .inr ("com/example/lambdaloom/lambdaloom/Route", [("nodes", "[I", .ref b1), ("fibres", "[I", .ref b2), ("hash", "I", .int z)])), (p, .inl (.int, [.int n0_, .int n1_, .int n2_, .int n3_])), (q, .inl (.int, [.int f0, .int f1, .int f2])), (b1, .inl (.int, [.int n0_, .int n1_, .int n2_, .int n3_])), (b2, .inl (.int, [.int f0, .int f1, .int f2])), (w, .inl (.int, [.int w0, .int w1, .int w2])), (o, .inr ("com/example/lambdaloom/lambdaloom/Lightpath", [("route", "Lcom/example/lambdaloom/lambdaloom/Route;", .ref r), ("wavelengths", "[I", .null), ("hash", "I", .int (0 : Int32))])), (a87, .inl (.int, [.int w0, .int w1, .int w2]))] 90 [.val (.ref o), .val (.ref r), .val (.ref w), .val (.ref w), .val (.int (3 : Int32)), .val (.int (3 : Int32)), .val (.int w2)] [.ref a87, .ref o]
  refine C.castI (q := 93) 7 dl_90 (hw _ (List.mem_of_getElem? (i := 53) rfl)) rfl rfl ?_
  refine C.putf (q := 96) 6 1 (ty := (.array .int)) (H' := [(r, .inr ("com/example/lambdaloom/lambdaloom/Route", [("nodes", "[I", .ref b1), ("fibres", "[I", .ref b2), ("hash", "I", .int z)])), (p, .inl (.int, [.int n0_, .int n1_, .int n2_, .int n3_])), (q, .inl (.int, [.int f0, .int f1, .int f2])), (b1, .inl (.int, [.int n0_, .int n1_, .int n2_, .int n3_])), (b2, .inl (.int, [.int f0, .int f1, .int f2])), (w, .inl (.int, [.int w0, .int w1, .int w2])), (o, .inr ("com/example/lambdaloom/lambdaloom/Lightpath", [("route", "Lcom/example/lambdaloom/lambdaloom/Route;", .ref r), ("wavelengths", "[I", .ref a87), ("hash", "I", .int (0 : Int32))])), (a87, .inl (.int, [.int w0, .int w1, .int w2]))]) dl_93 (hw _ (List.mem_of_getElem? (i := 54) rfl)) (Or.inr ⟨(hw _ (List.mem_of_getElem? (i := 55) rfl)), rfl, rfl⟩) (hw _ (List.mem_of_getElem? (i := 39) rfl)) rfl rfl (by decide) rfl rfl rfl rfl ?_
  refine C.aloadN (q := 97) dl_96 rfl rfl rfl ?_
  refine C.bipush (q := 99) (z := (31 : Int32)) dl_97 rfl rfl ?_
  refine C.aloadN (q := 100) dl_99 rfl rfl rfl ?_
  refine C.callV (q := 103) 2 0 [] [.int (31 : Int32), .ref o] dl_100 (hw _ (List.mem_of_getElem? (i := 56) rfl)) (hw _ (List.mem_of_getElem? (i := 57) rfl)) (hw _ (List.mem_of_getElem? (i := 58) rfl)) (hw _ (List.mem_of_getElem? (i := 59) rfl)) (hw _ (List.mem_of_getElem? (i := 3) rfl)) (hw _ (List.mem_of_getElem? (i := 60) rfl)) (own_cg l Z a0 n0 hw [] r b1 b2 z _) (by decide) (by decide) (by decide) own_pd3 rfl rfl rfl rfl (Nat.le_of_eq rfl) (by decide) (by decide) rfl ?_
  rintro _ _ ⟨rfl, hE⟩
  rw [hE]
  show G 1 3 [(r, .inr ("com/example/lambdaloom/lambdaloom/Route", [("nodes", "[I", .ref b1), ("fibres", "[I", .ref b2), ("hash", "I", .int z)])), (p, .inl (.int, [.int n0_, .int n1_, .int n2_, .int n3_])), (q, .inl (.int, [.int f0, .int f1, .int f2])), (b1, .inl (.int, [.int n0_, .int n1_, .int n2_, .int n3_])), (b2, .inl (.int, [.int f0, .int f1, .int f2])), (w, .inl (.int, [.int w0, .int w1, .int w2])), (o, .inr ("com/example/lambdaloom/lambdaloom/Lightpath", [("route", "Lcom/example/lambdaloom/lambdaloom/Route;", .ref r), ("wavelengths", "[I", .ref a87), ("hash", "I", .int (0 : Int32))])), (a87, .inl (.int, [.int w0, .int w1, .int w2]))] 103 [.val (.ref o), .val (.ref r), .val (.ref w), .val (.ref w), .val (.int (3 : Int32)), .val (.int (3 : Int32)), .val (.int w2)] [.int z, .int (31 : Int32), .ref o]
  refine C.imul (q := 104) dl_103 rfl ?_
  refine C.aloadN (q := 105) dl_104 rfl rfl rfl ?_
  refine C.callS (q := 108) 2 [.ref w] [.int ((31 : Int32) * z), .ref o] dl_105 (hw _ (List.mem_of_getElem? (i := 61) rfl)) (hw _ (List.mem_of_getElem? (i := 25) rfl)) (hw _ (List.mem_of_getElem? (i := 26) rfl)) (hw _ (List.mem_of_getElem? (i := 27) rfl)) (own_ca3 l Z a0 n0 hw [] w 5 w0 w1 w2 [(r, .inr ("com/example/lambdaloom/lambdaloom/Route", [("nodes", "[I", .ref b1), ("fibres", "[I", .ref b2), ("hash", "I", .int z)])), (p, .inl (.int, [.int n0_, .int n1_, .int n2_, .int n3_])), (q, .inl (.int, [.int f0, .int f1, .int f2])), (b1, .inl (.int, [.int n0_, .int n1_, .int n2_, .int n3_])), (b2, .inl (.int, [.int f0, .int f1, .int f2])), (w, .inl (.int, [.int w0, .int w1, .int w2])), (o, .inr ("com/example/lambdaloom/lambdaloom/Lightpath", [("route", "Lcom/example/lambdaloom/lambdaloom/Route;", .ref r), ("wavelengths", "[I", .ref a87), ("hash", "I", .int (0 : Int32))])), (a87, .inl (.int, [.int w0, .int w1, .int w2]))] rfl) (by decide) (by decide) (by decide) own_pd2 rfl rfl rfl (Nat.le_of_eq rfl) (by decide) (by decide) rfl ?_
  rintro _ _ ⟨⟨z105, rfl⟩, hE⟩
  rw [hE]
  show G 1 3 [(r, .inr ("com/example/lambdaloom/lambdaloom/Route", [("nodes", "[I", .ref b1), ("fibres", "[I", .ref b2), ("hash", "I", .int z)])), (p, .inl (.int, [.int n0_, .int n1_, .int n2_, .int n3_])), (q, .inl (.int, [.int f0, .int f1, .int f2])), (b1, .inl (.int, [.int n0_, .int n1_, .int n2_, .int n3_])), (b2, .inl (.int, [.int f0, .int f1, .int f2])), (w, .inl (.int, [.int w0, .int w1, .int w2])), (o, .inr ("com/example/lambdaloom/lambdaloom/Lightpath", [("route", "Lcom/example/lambdaloom/lambdaloom/Route;", .ref r), ("wavelengths", "[I", .ref a87), ("hash", "I", .int (0 : Int32))])), (a87, .inl (.int, [.int w0, .int w1, .int w2]))] 108 [.val (.ref o), .val (.ref r), .val (.ref w), .val (.ref w), .val (.int (3 : Int32)), .val (.int (3 : Int32)), .val (.int w2)] [.int z105, .int ((31 : Int32) * z), .ref o]
  refine C.iadd (q := 109) dl_108 rfl ?_
  refine C.putf (q := 112) 6 2 (ty := .int) (H' := [(r, .inr ("com/example/lambdaloom/lambdaloom/Route", [("nodes", "[I", .ref b1), ("fibres", "[I", .ref b2), ("hash", "I", .int z)])), (p, .inl (.int, [.int n0_, .int n1_, .int n2_, .int n3_])), (q, .inl (.int, [.int f0, .int f1, .int f2])), (b1, .inl (.int, [.int n0_, .int n1_, .int n2_, .int n3_])), (b2, .inl (.int, [.int f0, .int f1, .int f2])), (w, .inl (.int, [.int w0, .int w1, .int w2])), (o, .inr ("com/example/lambdaloom/lambdaloom/Lightpath", [("route", "Lcom/example/lambdaloom/lambdaloom/Route;", .ref r), ("wavelengths", "[I", .ref a87), ("hash", "I", .int (((31 : Int32) * z) + z105))])), (a87, .inl (.int, [.int w0, .int w1, .int w2]))]) dl_109 (hw _ (List.mem_of_getElem? (i := 62) rfl)) (Or.inr ⟨(hw _ (List.mem_of_getElem? (i := 63) rfl)), rfl, rfl⟩) (hw _ (List.mem_of_getElem? (i := 39) rfl)) rfl rfl (by decide) rfl rfl rfl rfl ?_
  exact C.retV dl_112 (by decide) (by decide) ⟨rfl, _, _, rfl⟩
theorem own_i0 {a b : Int32} (h : a = b) : (if a = b then (0 : Int32) else (1 : Int32)) = 0 := if_pos h
theorem own_i1 {a b : Int32} (h : ¬ a = b) : (if a = b then (0 : Int32) else (1 : Int32)) = 1 := if_neg h
theorem own_j0 {a b : Int32} (h : a = b) : some (Value.int (nar .boolean 0)) = some (Value.int (if a = b then (0 : Int32) else (1 : Int32))) := by rw [own_i0 h, show nar .boolean 0 = 0 by decide]
theorem own_j1 {a b : Int32} (h : ¬ a = b) : some (Value.int (nar .boolean 1)) = some (Value.int (if a = b then (0 : Int32) else (1 : Int32))) := by rw [own_i1 h, show nar .boolean 1 = 1 by decide]
theorem db0_0 : decode prog_17_method_4_code 0 = .ok (.iload_n 1, 1) := by decide +kernel
theorem db0_1 : decode prog_17_method_4_code 1 = .ok (.ifCond .le 24, 3) := by decide +kernel
theorem db0_25 : decode prog_17_method_4_code 25 = .ok (.iconst 0, 1) := by decide +kernel
theorem db0_26 : decode prog_17_method_4_code 26 = .ok (.ireturn, 1) := by decide +kernel
theorem own_pnb0 : plainFor (⟨"com/example/lambdaloom/lambdaloom/Lightpath", "convertsBefore", "(I)Z"⟩ : MethodName) = true := by first | exact plainFor_of_name (by first | (simp [plainName, overriddenIn]; done) | decide +kernel) | decide +kernel
set_option maxHeartbeats 4000000 in
theorem own_efb0 (m : MethodId) (x0 : Addr) (x1 : Int32) : entryFrame m #[.ref x0, .int x1] 2 = mkF m 0 #[.val (.ref x0), .val (.int x1)] [] := by first | (simp [entryFrame, mkF, argsToLocals, Value.category, maxLocals]; done) | rfl
set_option maxRecDepth 65536 in
set_option maxHeartbeats 40000000 in
theorem own_cb0 (l : Launch) (Z : State) (a0 : Array Value) (n0 : Nat) (hw : ∀ d ∈ tables_1, d.before a0 Z = true) (ws : List Jvm.Cond) (o r p q b1 b2 w b : Addr) (z y n0_ n1_ n2_ n3_ f0 f1 f2 w0 w1 w2 : Int32)  :
    own_Con l Z n0 (⟨"com/example/lambdaloom/lambdaloom/Lightpath", "convertsBefore", "(I)Z"⟩ : MethodName) prog_17_method_4_code 2 (some .boolean) ws ({ frames := 0, cells := 0, slots := 0, locals := 0 } : Room) #[.ref o, .int (0 : Int32)] [(r, .inr ("com/example/lambdaloom/lambdaloom/Route", [("nodes", "[I", .ref b1), ("fibres", "[I", .ref b2), ("hash", "I", .int z)])), (p, .inl (.int, [.int n0_, .int n1_, .int n2_, .int n3_])), (q, .inl (.int, [.int f0, .int f1, .int f2])), (b1, .inl (.int, [.int n0_, .int n1_, .int n2_, .int n3_])), (b2, .inl (.int, [.int f0, .int f1, .int f2])), (w, .inl (.int, [.int w0, .int w1, .int w2])), (o, .inr ("com/example/lambdaloom/lambdaloom/Lightpath", [("route", "Lcom/example/lambdaloom/lambdaloom/Route;", .ref r), ("wavelengths", "[I", .ref b), ("hash", "I", .int y)])), (b, .inl (.int, [.int w0, .int w1, .int w2]))] (fun v H' => v = some (.int (0 : Int32)) ∧ H' = [(r, .inr ("com/example/lambdaloom/lambdaloom/Route", [("nodes", "[I", .ref b1), ("fibres", "[I", .ref b2), ("hash", "I", .int z)])), (p, .inl (.int, [.int n0_, .int n1_, .int n2_, .int n3_])), (q, .inl (.int, [.int f0, .int f1, .int f2])), (b1, .inl (.int, [.int n0_, .int n1_, .int n2_, .int n3_])), (b2, .inl (.int, [.int f0, .int f1, .int f2])), (w, .inl (.int, [.int w0, .int w1, .int w2])), (o, .inr ("com/example/lambdaloom/lambdaloom/Lightpath", [("route", "Lcom/example/lambdaloom/lambdaloom/Route;", .ref r), ("wavelengths", "[I", .ref b), ("hash", "I", .int y)])), (b, .inl (.int, [.int w0, .int w1, .int w2]))]) := by
  refine own_con own_pnb0 (fun m_ => own_efb0 m_ o (0 : Int32)) ?_
  intro G C
  refine C.iloadN (q := 1) db0_0 rfl rfl ?_
  refine C.ifLe (q := 25) (q' := 4) db0_1 (by decide) (by decide) rfl (fun h1 => absurd h1 (by decide)) (fun h1 => ?_)
  refine C.iconst (q := 26) (z := (0 : Int32)) db0_25 rfl rfl ?_
  exact C.retB (by simp) db0_26 (by decide) (by decide) ⟨rfl, rfl⟩
theorem db1_0 : decode prog_17_method_4_code 0 = .ok (.iload_n 1, 1) := by decide +kernel
theorem db1_1 : decode prog_17_method_4_code 1 = .ok (.ifCond .le 24, 3) := by decide +kernel
theorem db1_4 : decode prog_17_method_4_code 4 = .ok (.aload_n 0, 1) := by decide +kernel
theorem db1_5 : decode prog_17_method_4_code 5 = .ok (.getfield 37, 3) := by decide +kernel
theorem db1_8 : decode prog_17_method_4_code 8 = .ok (.iload_n 1, 1) := by decide +kernel
theorem db1_9 : decode prog_17_method_4_code 9 = .ok (.iaload, 1) := by decide +kernel
theorem db1_10 : decode prog_17_method_4_code 10 = .ok (.aload_n 0, 1) := by decide +kernel
theorem db1_11 : decode prog_17_method_4_code 11 = .ok (.getfield 37, 3) := by decide +kernel
theorem db1_14 : decode prog_17_method_4_code 14 = .ok (.iload_n 1, 1) := by decide +kernel
theorem db1_15 : decode prog_17_method_4_code 15 = .ok (.iconst 1, 1) := by decide +kernel
theorem db1_16 : decode prog_17_method_4_code 16 = .ok (.isub, 1) := by decide +kernel
theorem db1_17 : decode prog_17_method_4_code 17 = .ok (.iaload, 1) := by decide +kernel
theorem db1_18 : decode prog_17_method_4_code 18 = .ok (.if_icmp .eq 7, 3) := by decide +kernel
theorem db1_21 : decode prog_17_method_4_code 21 = .ok (.iconst 1, 1) := by decide +kernel
theorem db1_22 : decode prog_17_method_4_code 22 = .ok (.goto 4, 3) := by decide +kernel
theorem db1_25 : decode prog_17_method_4_code 25 = .ok (.iconst 0, 1) := by decide +kernel
theorem db1_26 : decode prog_17_method_4_code 26 = .ok (.ireturn, 1) := by decide +kernel
theorem own_pnb1 : plainFor (⟨"com/example/lambdaloom/lambdaloom/Lightpath", "convertsBefore", "(I)Z"⟩ : MethodName) = true := by first | exact plainFor_of_name (by first | (simp [plainName, overriddenIn]; done) | decide +kernel) | decide +kernel
set_option maxHeartbeats 4000000 in
theorem own_efb1 (m : MethodId) (x0 : Addr) (x1 : Int32) : entryFrame m #[.ref x0, .int x1] 2 = mkF m 0 #[.val (.ref x0), .val (.int x1)] [] := by first | (simp [entryFrame, mkF, argsToLocals, Value.category, maxLocals]; done) | rfl
set_option maxRecDepth 65536 in
set_option maxHeartbeats 40000000 in
theorem own_cb1 (l : Launch) (Z : State) (a0 : Array Value) (n0 : Nat) (hw : ∀ d ∈ tables_1, d.before a0 Z = true) (ws : List Jvm.Cond) (o r p q b1 b2 w b : Addr) (z y n0_ n1_ n2_ n3_ f0 f1 f2 w0 w1 w2 : Int32)  :
    own_Con l Z n0 (⟨"com/example/lambdaloom/lambdaloom/Lightpath", "convertsBefore", "(I)Z"⟩ : MethodName) prog_17_method_4_code 2 (some .boolean) ws ({ frames := 0, cells := 0, slots := 0, locals := 0 } : Room) #[.ref o, .int (1 : Int32)] [(r, .inr ("com/example/lambdaloom/lambdaloom/Route", [("nodes", "[I", .ref b1), ("fibres", "[I", .ref b2), ("hash", "I", .int z)])), (p, .inl (.int, [.int n0_, .int n1_, .int n2_, .int n3_])), (q, .inl (.int, [.int f0, .int f1, .int f2])), (b1, .inl (.int, [.int n0_, .int n1_, .int n2_, .int n3_])), (b2, .inl (.int, [.int f0, .int f1, .int f2])), (w, .inl (.int, [.int w0, .int w1, .int w2])), (o, .inr ("com/example/lambdaloom/lambdaloom/Lightpath", [("route", "Lcom/example/lambdaloom/lambdaloom/Route;", .ref r), ("wavelengths", "[I", .ref b), ("hash", "I", .int y)])), (b, .inl (.int, [.int w0, .int w1, .int w2]))] (fun v H' => v = some (.int (if w1 = w0 then (0 : Int32) else (1 : Int32))) ∧ H' = [(r, .inr ("com/example/lambdaloom/lambdaloom/Route", [("nodes", "[I", .ref b1), ("fibres", "[I", .ref b2), ("hash", "I", .int z)])), (p, .inl (.int, [.int n0_, .int n1_, .int n2_, .int n3_])), (q, .inl (.int, [.int f0, .int f1, .int f2])), (b1, .inl (.int, [.int n0_, .int n1_, .int n2_, .int n3_])), (b2, .inl (.int, [.int f0, .int f1, .int f2])), (w, .inl (.int, [.int w0, .int w1, .int w2])), (o, .inr ("com/example/lambdaloom/lambdaloom/Lightpath", [("route", "Lcom/example/lambdaloom/lambdaloom/Route;", .ref r), ("wavelengths", "[I", .ref b), ("hash", "I", .int y)])), (b, .inl (.int, [.int w0, .int w1, .int w2]))]) := by
  refine own_con own_pnb1 (fun m_ => own_efb1 m_ o (1 : Int32)) ?_
  intro G C
  refine C.iloadN (q := 1) db1_0 rfl rfl ?_
  refine C.ifLe (q := 25) (q' := 4) db1_1 (by decide) (by decide) rfl (fun h1 => ?_) (fun h1 => absurd (by decide) h1)
  refine C.aloadN (q := 5) db1_4 rfl rfl rfl ?_
  refine C.getf (q := 8) 6 1 (v := .ref b) db1_5 (hw _ (List.mem_of_getElem? (i := 54) rfl)) rfl rfl rfl ?_
  refine C.iloadN (q := 9) db1_8 rfl rfl ?_
  refine C.iaload (q := 10) 7 (v := .int w1) db1_9 rfl (by decide) rfl rfl ?_
  refine C.aloadN (q := 11) db1_10 rfl rfl rfl ?_
  refine C.getf (q := 14) 6 1 (v := .ref b) db1_11 (hw _ (List.mem_of_getElem? (i := 54) rfl)) rfl rfl rfl ?_
  refine C.iloadN (q := 15) db1_14 rfl rfl ?_
  refine C.iconst (q := 16) (z := (1 : Int32)) db1_15 rfl rfl ?_
  refine C.isub (q := 17) db1_16 rfl ?_
  show G 0 0 [(r, .inr ("com/example/lambdaloom/lambdaloom/Route", [("nodes", "[I", .ref b1), ("fibres", "[I", .ref b2), ("hash", "I", .int z)])), (p, .inl (.int, [.int n0_, .int n1_, .int n2_, .int n3_])), (q, .inl (.int, [.int f0, .int f1, .int f2])), (b1, .inl (.int, [.int n0_, .int n1_, .int n2_, .int n3_])), (b2, .inl (.int, [.int f0, .int f1, .int f2])), (w, .inl (.int, [.int w0, .int w1, .int w2])), (o, .inr ("com/example/lambdaloom/lambdaloom/Lightpath", [("route", "Lcom/example/lambdaloom/lambdaloom/Route;", .ref r), ("wavelengths", "[I", .ref b), ("hash", "I", .int y)])), (b, .inl (.int, [.int w0, .int w1, .int w2]))] 17 [.val (.ref o), .val (.int (1 : Int32))] [.int (0 : Int32), .ref b, .int w1]
  refine C.iaload (q := 18) 7 (v := .int w0) db1_17 rfl (by decide) rfl rfl ?_
  refine C.icmpEq (q := 25) (q' := 21) db1_18 (by decide) (by decide) rfl (fun h18 => ?_) (fun h18 => ?_)
  · refine C.iconst (q := 26) (z := (0 : Int32)) db1_25 rfl rfl ?_
    exact C.retB (by simp) db1_26 (by decide) (by decide) ⟨own_j0 h18, rfl⟩
  · refine C.iconst (q := 22) (z := (1 : Int32)) db1_21 rfl rfl ?_
    refine C.goto (q := 26) db1_22 (by decide) (by decide) ?_
    exact C.retB (by simp) db1_26 (by decide) (by decide) ⟨own_j1 h18, rfl⟩
theorem db2_0 : decode prog_17_method_4_code 0 = .ok (.iload_n 1, 1) := by decide +kernel
theorem db2_1 : decode prog_17_method_4_code 1 = .ok (.ifCond .le 24, 3) := by decide +kernel
theorem db2_4 : decode prog_17_method_4_code 4 = .ok (.aload_n 0, 1) := by decide +kernel
theorem db2_5 : decode prog_17_method_4_code 5 = .ok (.getfield 37, 3) := by decide +kernel
theorem db2_8 : decode prog_17_method_4_code 8 = .ok (.iload_n 1, 1) := by decide +kernel
theorem db2_9 : decode prog_17_method_4_code 9 = .ok (.iaload, 1) := by decide +kernel
theorem db2_10 : decode prog_17_method_4_code 10 = .ok (.aload_n 0, 1) := by decide +kernel
theorem db2_11 : decode prog_17_method_4_code 11 = .ok (.getfield 37, 3) := by decide +kernel
theorem db2_14 : decode prog_17_method_4_code 14 = .ok (.iload_n 1, 1) := by decide +kernel
theorem db2_15 : decode prog_17_method_4_code 15 = .ok (.iconst 1, 1) := by decide +kernel
theorem db2_16 : decode prog_17_method_4_code 16 = .ok (.isub, 1) := by decide +kernel
theorem db2_17 : decode prog_17_method_4_code 17 = .ok (.iaload, 1) := by decide +kernel
theorem db2_18 : decode prog_17_method_4_code 18 = .ok (.if_icmp .eq 7, 3) := by decide +kernel
theorem db2_21 : decode prog_17_method_4_code 21 = .ok (.iconst 1, 1) := by decide +kernel
theorem db2_22 : decode prog_17_method_4_code 22 = .ok (.goto 4, 3) := by decide +kernel
theorem db2_25 : decode prog_17_method_4_code 25 = .ok (.iconst 0, 1) := by decide +kernel
theorem db2_26 : decode prog_17_method_4_code 26 = .ok (.ireturn, 1) := by decide +kernel
theorem own_pnb2 : plainFor (⟨"com/example/lambdaloom/lambdaloom/Lightpath", "convertsBefore", "(I)Z"⟩ : MethodName) = true := by first | exact plainFor_of_name (by first | (simp [plainName, overriddenIn]; done) | decide +kernel) | decide +kernel
set_option maxHeartbeats 4000000 in
theorem own_efb2 (m : MethodId) (x0 : Addr) (x1 : Int32) : entryFrame m #[.ref x0, .int x1] 2 = mkF m 0 #[.val (.ref x0), .val (.int x1)] [] := by first | (simp [entryFrame, mkF, argsToLocals, Value.category, maxLocals]; done) | rfl
set_option maxRecDepth 65536 in
set_option maxHeartbeats 40000000 in
theorem own_cb2 (l : Launch) (Z : State) (a0 : Array Value) (n0 : Nat) (hw : ∀ d ∈ tables_1, d.before a0 Z = true) (ws : List Jvm.Cond) (o r p q b1 b2 w b : Addr) (z y n0_ n1_ n2_ n3_ f0 f1 f2 w0 w1 w2 : Int32)  :
    own_Con l Z n0 (⟨"com/example/lambdaloom/lambdaloom/Lightpath", "convertsBefore", "(I)Z"⟩ : MethodName) prog_17_method_4_code 2 (some .boolean) ws ({ frames := 0, cells := 0, slots := 0, locals := 0 } : Room) #[.ref o, .int (2 : Int32)] [(r, .inr ("com/example/lambdaloom/lambdaloom/Route", [("nodes", "[I", .ref b1), ("fibres", "[I", .ref b2), ("hash", "I", .int z)])), (p, .inl (.int, [.int n0_, .int n1_, .int n2_, .int n3_])), (q, .inl (.int, [.int f0, .int f1, .int f2])), (b1, .inl (.int, [.int n0_, .int n1_, .int n2_, .int n3_])), (b2, .inl (.int, [.int f0, .int f1, .int f2])), (w, .inl (.int, [.int w0, .int w1, .int w2])), (o, .inr ("com/example/lambdaloom/lambdaloom/Lightpath", [("route", "Lcom/example/lambdaloom/lambdaloom/Route;", .ref r), ("wavelengths", "[I", .ref b), ("hash", "I", .int y)])), (b, .inl (.int, [.int w0, .int w1, .int w2]))] (fun v H' => v = some (.int (if w2 = w1 then (0 : Int32) else (1 : Int32))) ∧ H' = [(r, .inr ("com/example/lambdaloom/lambdaloom/Route", [("nodes", "[I", .ref b1), ("fibres", "[I", .ref b2), ("hash", "I", .int z)])), (p, .inl (.int, [.int n0_, .int n1_, .int n2_, .int n3_])), (q, .inl (.int, [.int f0, .int f1, .int f2])), (b1, .inl (.int, [.int n0_, .int n1_, .int n2_, .int n3_])), (b2, .inl (.int, [.int f0, .int f1, .int f2])), (w, .inl (.int, [.int w0, .int w1, .int w2])), (o, .inr ("com/example/lambdaloom/lambdaloom/Lightpath", [("route", "Lcom/example/lambdaloom/lambdaloom/Route;", .ref r), ("wavelengths", "[I", .ref b), ("hash", "I", .int y)])), (b, .inl (.int, [.int w0, .int w1, .int w2]))]) := by
  refine own_con own_pnb2 (fun m_ => own_efb2 m_ o (2 : Int32)) ?_
  intro G C
  refine C.iloadN (q := 1) db2_0 rfl rfl ?_
  refine C.ifLe (q := 25) (q' := 4) db2_1 (by decide) (by decide) rfl (fun h1 => ?_) (fun h1 => absurd (by decide) h1)
  refine C.aloadN (q := 5) db2_4 rfl rfl rfl ?_
  refine C.getf (q := 8) 6 1 (v := .ref b) db2_5 (hw _ (List.mem_of_getElem? (i := 54) rfl)) rfl rfl rfl ?_
  refine C.iloadN (q := 9) db2_8 rfl rfl ?_
  refine C.iaload (q := 10) 7 (v := .int w2) db2_9 rfl (by decide) rfl rfl ?_
  refine C.aloadN (q := 11) db2_10 rfl rfl rfl ?_
  refine C.getf (q := 14) 6 1 (v := .ref b) db2_11 (hw _ (List.mem_of_getElem? (i := 54) rfl)) rfl rfl rfl ?_
  refine C.iloadN (q := 15) db2_14 rfl rfl ?_
  refine C.iconst (q := 16) (z := (1 : Int32)) db2_15 rfl rfl ?_
  refine C.isub (q := 17) db2_16 rfl ?_
  show G 0 0 [(r, .inr ("com/example/lambdaloom/lambdaloom/Route", [("nodes", "[I", .ref b1), ("fibres", "[I", .ref b2), ("hash", "I", .int z)])), (p, .inl (.int, [.int n0_, .int n1_, .int n2_, .int n3_])), (q, .inl (.int, [.int f0, .int f1, .int f2])), (b1, .inl (.int, [.int n0_, .int n1_, .int n2_, .int n3_])), (b2, .inl (.int, [.int f0, .int f1, .int f2])), (w, .inl (.int, [.int w0, .int w1, .int w2])), (o, .inr ("com/example/lambdaloom/lambdaloom/Lightpath", [("route", "Lcom/example/lambdaloom/lambdaloom/Route;", .ref r), ("wavelengths", "[I", .ref b), ("hash", "I", .int y)])), (b, .inl (.int, [.int w0, .int w1, .int w2]))] 17 [.val (.ref o), .val (.int (2 : Int32))] [.int (1 : Int32), .ref b, .int w2]
  refine C.iaload (q := 18) 7 (v := .int w1) db2_17 rfl (by decide) rfl rfl ?_
  refine C.icmpEq (q := 25) (q' := 21) db2_18 (by decide) (by decide) rfl (fun h18 => ?_) (fun h18 => ?_)
  · refine C.iconst (q := 26) (z := (0 : Int32)) db2_25 rfl rfl ?_
    exact C.retB (by simp) db2_26 (by decide) (by decide) ⟨own_j0 h18, rfl⟩
  · refine C.iconst (q := 22) (z := (1 : Int32)) db2_21 rfl rfl ?_
    refine C.goto (q := 26) db2_22 (by decide) (by decide) ?_
    exact C.retB (by simp) db2_26 (by decide) (by decide) ⟨own_j1 h18, rfl⟩
theorem own_nn0 (a : Int32) : ¬ (a &&& (2147483647 : Int32)) < 0 := by
  have m := c_mask a 2147483647 31 (by decide) (by decide)
  rw [Int32.lt_iff_toInt_lt]; simp only [Int32.reduceToInt]; omega
theorem own_k3 (a : Int32) : (a &&& (2147483647 : Int32)) % (3 : Int32) = 0 ∨ (a &&& (2147483647 : Int32)) % (3 : Int32) = 1 ∨ (a &&& (2147483647 : Int32)) % (3 : Int32) = 2 := by
  have m := c_mask a 2147483647 31 (by decide) (by decide)
  have e := (c_iremV (a &&& 2147483647) (3 : Int32)).1 (by omega) (by decide)
  simp only [← Int32.toInt_inj, Int32.reduceToInt] at *
  omega
theorem own_pnlaw : plainFor x = true := by first | exact plainFor_of_name (by first | (simp [plainName, overriddenIn]; done) | decide +kernel) | decide +kernel
set_option maxHeartbeats 4000000 in
theorem own_eflaw (m : MethodId) (x0 : Int32) (x1 : Int32) (x2 : Int32) (x3 : Int32) (x4 : Int32) : entryFrame m #[.int x0, .int x1, .int x2, .int x3, .int x4] maxLocals = mkF m 0 #[.val (.int x0), .val (.int x1), .val (.int x2), .val (.int x3), .val (.int x4), .unset, .unset, .unset, .unset, .unset, .unset, .unset, .unset] [] := by first | (simp [entryFrame, mkF, argsToLocals, Value.category, maxLocals]; done) | rfl
set_option maxRecDepth 65536 in
set_option maxHeartbeats 40000000 in
theorem own_claw (l : Launch) (Z : State) (a0 : Array Value) (n0 : Nat) (hw : ∀ d ∈ tables_1, d.before a0 Z = true) (ws : List Jvm.Cond) (p0 p1 p2 p3 p4 : Int32)  :
    own_Con l Z n0 x code maxLocals ret ws room_1 #[.int p0, .int p1, .int p2, .int p3, .int p4] [] (fun v _ => v = some (.int 1)) := by
  refine own_con own_pnlaw (fun m_ => own_eflaw m_ p0 p1 p2 p3 p4) ?_
  intro G C
  refine C.iloadN (q := 1) at_0 rfl rfl ?_
  refine C.ldc (q := 3) (v := (2147483647 : Int32)) at_1 (hw _ (List.mem_of_getElem? (i := 0) rfl)) rfl ?_
  refine C.iand (q := 4) at_3 rfl ?_
  refine C.istore (q := 6) (ls' := [.val (.int p0), .val (.int p1), .val (.int p2), .val (.int p3), .val (.int p4), .val (.int (p0 &&& (2147483647 : Int32))), .unset, .unset, .unset, .unset, .unset, .unset, .unset]) at_4 rfl rfl ?_
  generalize hw0 : (p0 &&& (2147483647 : Int32)) = w0
  have q0 : ¬ w0 < 0 := by rw [← hw0]; exact own_nn0 p0
  refine C.iloadN (q := 7) at_6 rfl rfl ?_
  refine C.iconst (q := 8) (z := (1 : Int32)) at_7 rfl rfl ?_
  refine C.iand (q := 9) at_8 rfl ?_
  have J9 : ∀ (w1 : Int32), (¬ w1 < 0) → G 0 0 [] 21 [.val (.int p0), .val (.int p1), .val (.int p2), .val (.int p3), .val (.int p4), .val (.int w0), .unset, .unset, .unset, .unset, .unset, .unset, .unset] [.int w1] := by
    intro w1 hw1
    have q1 := hw1
    refine C.istore (q := 23) (ls' := [.val (.int p0), .val (.int p1), .val (.int p2), .val (.int p3), .val (.int p4), .val (.int w0), .val (.int w1), .unset, .unset, .unset, .unset, .unset, .unset]) at_21 rfl rfl ?_
    refine C.iloadN (q := 24) at_23 rfl rfl ?_
    refine C.iconst (q := 25) (z := (2 : Int32)) at_24 rfl rfl ?_
    refine C.iand (q := 26) at_25 rfl ?_
    have J26 : ∀ (w2 : Int32), (¬ w2 < 0) → G 0 0 [] 38 [.val (.int p0), .val (.int p1), .val (.int p2), .val (.int p3), .val (.int p4), .val (.int w0), .val (.int w1), .unset, .unset, .unset, .unset, .unset, .unset] [.int w2] := by
      intro w2 hw2
      have q2 := hw2
      refine C.istore (q := 40) (ls' := [.val (.int p0), .val (.int p1), .val (.int p2), .val (.int p3), .val (.int p4), .val (.int w0), .val (.int w1), .val (.int w2), .unset, .unset, .unset, .unset, .unset]) at_38 rfl rfl ?_
      refine C.iload (q := 42) at_40 rfl rfl ?_
      refine C.ldc (q := 44) (v := (2147483647 : Int32)) at_42 (hw _ (List.mem_of_getElem? (i := 0) rfl)) rfl ?_
      refine C.iand (q := 45) at_44 rfl ?_
      refine C.iconst (q := 46) (z := (3 : Int32)) at_45 rfl rfl ?_
      refine C.irem (q := 47) at_46 (by decide) rfl ?_
      show G 0 0 [] 47 [.val (.int p0), .val (.int p1), .val (.int p2), .val (.int p3), .val (.int p4), .val (.int w0), .val (.int w1), .val (.int w2), .unset, .unset, .unset, .unset, .unset] [.int ((p4 &&& (2147483647 : Int32)) % (3 : Int32))]
      rcases own_k3 p4 with hk | hk | hk <;> rw [hk]
      · refine C.istore (q := 49) (ls' := [.val (.int p0), .val (.int p1), .val (.int p2), .val (.int p3), .val (.int p4), .val (.int w0), .val (.int w1), .val (.int w2), .val (.int (0 : Int32)), .unset, .unset, .unset, .unset]) at_47 rfl rfl ?_
        refine C.newobj (q := 52) [("nodes", "[I", (.array .int)), ("fibres", "[I", (.array .int)), ("hash", "I", .int)] (fs := [("nodes", "[I", .null), ("fibres", "[I", .null), ("hash", "I", .int (0 : Int32))]) (k' := 1) (n' := 3) at_49 (hw _ (List.mem_of_getElem? (i := 1) rfl)) (hw _ (List.mem_of_getElem? (i := 2) rfl)) (hw _ (List.mem_of_getElem? (i := 3) rfl)) ⟨⟨Or.inr (hw _ (List.mem_of_getElem? (i := 21) rfl)), by decide⟩, ⟨⟨Or.inr (hw _ (List.mem_of_getElem? (i := 23) rfl)), by decide⟩, ⟨⟨Or.inr (hw _ (List.mem_of_getElem? (i := 37) rfl)), by decide⟩, trivial⟩⟩⟩ (by decide) (by decide) (by decide) rfl rfl rfl rfl (fun a49 => ?_)
        show G 1 3 [(a49, .inr ("com/example/lambdaloom/lambdaloom/Route", [("nodes", "[I", .null), ("fibres", "[I", .null), ("hash", "I", .int (0 : Int32))]))] 52 [.val (.int p0), .val (.int p1), .val (.int p2), .val (.int p3), .val (.int p4), .val (.int w0), .val (.int w1), .val (.int w2), .val (.int (0 : Int32)), .unset, .unset, .unset, .unset] [.ref a49]
        refine C.dup (q := 53) at_52 rfl rfl ?_
        refine C.iconst (q := 54) (z := (4 : Int32)) at_53 rfl rfl ?_
        refine C.newarr (q := 56) 4 (ty := .int) (vs := [.int (0 : Int32), .int (0 : Int32), .int (0 : Int32), .int (0 : Int32)]) (k' := 2) (n' := 7) at_54 (hw _ (List.mem_of_getElem? (i := 4) rfl)) (by decide) (by decide) (by decide) (by decide) (by decide) rfl rfl rfl rfl rfl (fun a54 => ?_)
        show G 2 7 [(a49, .inr ("com/example/lambdaloom/lambdaloom/Route", [("nodes", "[I", .null), ("fibres", "[I", .null), ("hash", "I", .int (0 : Int32))])), (a54, .inl (.int, [.int (0 : Int32), .int (0 : Int32), .int (0 : Int32), .int (0 : Int32)]))] 56 [.val (.int p0), .val (.int p1), .val (.int p2), .val (.int p3), .val (.int p4), .val (.int w0), .val (.int w1), .val (.int w2), .val (.int (0 : Int32)), .unset, .unset, .unset, .unset] [.ref a54, .ref a49, .ref a49]
        refine C.dup (q := 57) at_56 rfl rfl ?_
        refine C.iconst (q := 58) (z := (0 : Int32)) at_57 rfl rfl ?_
        refine C.iconst (q := 59) (z := (0 : Int32)) at_58 rfl rfl ?_
        refine C.iastore (q := 60) 1 (H' := [(a49, .inr ("com/example/lambdaloom/lambdaloom/Route", [("nodes", "[I", .null), ("fibres", "[I", .null), ("hash", "I", .int (0 : Int32))])), (a54, .inl (.int, [.int (0 : Int32), .int (0 : Int32), .int (0 : Int32), .int (0 : Int32)]))]) at_59 rfl (by decide) (by show _ < 4; decide) rfl rfl ?_
        refine C.dup (q := 61) at_60 rfl rfl ?_
        refine C.iconst (q := 62) (z := (1 : Int32)) at_61 rfl rfl ?_
        refine C.iconst (q := 63) (z := (1 : Int32)) at_62 rfl rfl ?_
        refine C.iastore (q := 64) 1 (H' := [(a49, .inr ("com/example/lambdaloom/lambdaloom/Route", [("nodes", "[I", .null), ("fibres", "[I", .null), ("hash", "I", .int (0 : Int32))])), (a54, .inl (.int, [.int (0 : Int32), .int (1 : Int32), .int (0 : Int32), .int (0 : Int32)]))]) at_63 rfl (by decide) (by show _ < 4; decide) rfl rfl ?_
        refine C.dup (q := 65) at_64 rfl rfl ?_
        refine C.iconst (q := 66) (z := (2 : Int32)) at_65 rfl rfl ?_
        refine C.iconst (q := 67) (z := (2 : Int32)) at_66 rfl rfl ?_
        refine C.iastore (q := 68) 1 (H' := [(a49, .inr ("com/example/lambdaloom/lambdaloom/Route", [("nodes", "[I", .null), ("fibres", "[I", .null), ("hash", "I", .int (0 : Int32))])), (a54, .inl (.int, [.int (0 : Int32), .int (1 : Int32), .int (2 : Int32), .int (0 : Int32)]))]) at_67 rfl (by decide) (by show _ < 4; decide) rfl rfl ?_
        refine C.dup (q := 69) at_68 rfl rfl ?_
        refine C.iconst (q := 70) (z := (3 : Int32)) at_69 rfl rfl ?_
        refine C.iconst (q := 71) (z := (3 : Int32)) at_70 rfl rfl ?_
        refine C.iastore (q := 72) 1 (H' := [(a49, .inr ("com/example/lambdaloom/lambdaloom/Route", [("nodes", "[I", .null), ("fibres", "[I", .null), ("hash", "I", .int (0 : Int32))])), (a54, .inl (.int, [.int (0 : Int32), .int (1 : Int32), .int (2 : Int32), .int (3 : Int32)]))]) at_71 rfl (by decide) (by show _ < 4; decide) rfl rfl ?_
        refine C.iconst (q := 73) (z := (3 : Int32)) at_72 rfl rfl ?_
        refine C.newarr (q := 75) 3 (ty := .int) (vs := [.int (0 : Int32), .int (0 : Int32), .int (0 : Int32)]) (k' := 3) (n' := 10) at_73 (hw _ (List.mem_of_getElem? (i := 4) rfl)) (by decide) (by decide) (by decide) (by decide) (by decide) rfl rfl rfl rfl rfl (fun a73 => ?_)
        show G 3 10 [(a49, .inr ("com/example/lambdaloom/lambdaloom/Route", [("nodes", "[I", .null), ("fibres", "[I", .null), ("hash", "I", .int (0 : Int32))])), (a54, .inl (.int, [.int (0 : Int32), .int (1 : Int32), .int (2 : Int32), .int (3 : Int32)])), (a73, .inl (.int, [.int (0 : Int32), .int (0 : Int32), .int (0 : Int32)]))] 75 [.val (.int p0), .val (.int p1), .val (.int p2), .val (.int p3), .val (.int p4), .val (.int w0), .val (.int w1), .val (.int w2), .val (.int (0 : Int32)), .unset, .unset, .unset, .unset] [.ref a73, .ref a54, .ref a49, .ref a49]
        refine C.dup (q := 76) at_75 rfl rfl ?_
        refine C.iconst (q := 77) (z := (0 : Int32)) at_76 rfl rfl ?_
        refine C.iconst (q := 78) (z := (0 : Int32)) at_77 rfl rfl ?_
        refine C.iastore (q := 79) 2 (H' := [(a49, .inr ("com/example/lambdaloom/lambdaloom/Route", [("nodes", "[I", .null), ("fibres", "[I", .null), ("hash", "I", .int (0 : Int32))])), (a54, .inl (.int, [.int (0 : Int32), .int (1 : Int32), .int (2 : Int32), .int (3 : Int32)])), (a73, .inl (.int, [.int (0 : Int32), .int (0 : Int32), .int (0 : Int32)]))]) at_78 rfl (by decide) (by show _ < 3; decide) rfl rfl ?_
        refine C.dup (q := 80) at_79 rfl rfl ?_
        refine C.iconst (q := 81) (z := (1 : Int32)) at_80 rfl rfl ?_
        refine C.iconst (q := 82) (z := (1 : Int32)) at_81 rfl rfl ?_
        refine C.iastore (q := 83) 2 (H' := [(a49, .inr ("com/example/lambdaloom/lambdaloom/Route", [("nodes", "[I", .null), ("fibres", "[I", .null), ("hash", "I", .int (0 : Int32))])), (a54, .inl (.int, [.int (0 : Int32), .int (1 : Int32), .int (2 : Int32), .int (3 : Int32)])), (a73, .inl (.int, [.int (0 : Int32), .int (1 : Int32), .int (0 : Int32)]))]) at_82 rfl (by decide) (by show _ < 3; decide) rfl rfl ?_
        refine C.dup (q := 84) at_83 rfl rfl ?_
        refine C.iconst (q := 85) (z := (2 : Int32)) at_84 rfl rfl ?_
        refine C.iconst (q := 86) (z := (2 : Int32)) at_85 rfl rfl ?_
        refine C.iastore (q := 87) 2 (H' := [(a49, .inr ("com/example/lambdaloom/lambdaloom/Route", [("nodes", "[I", .null), ("fibres", "[I", .null), ("hash", "I", .int (0 : Int32))])), (a54, .inl (.int, [.int (0 : Int32), .int (1 : Int32), .int (2 : Int32), .int (3 : Int32)])), (a73, .inl (.int, [.int (0 : Int32), .int (1 : Int32), .int (2 : Int32)]))]) at_86 rfl (by decide) (by show _ < 3; decide) rfl rfl ?_
        refine C.callI (q := 90) 1 a49 [.ref a54, .ref a73] [.ref a49] at_87 (hw _ (List.mem_of_getElem? (i := 5) rfl)) (hw _ (List.mem_of_getElem? (i := 6) rfl)) (hw _ (List.mem_of_getElem? (i := 3) rfl)) (hw _ (List.mem_of_getElem? (i := 7) rfl)) (own_cr l Z a0 n0 hw [] a49 a54 a73 (0 : Int32) (1 : Int32) (2 : Int32) (3 : Int32) (0 : Int32) (1 : Int32) (2 : Int32)) rfl (by decide) (by decide) (by decide) own_pd4 rfl rfl rfl (Nat.le_of_eq rfl) (by decide) (by decide) rfl ?_
        rintro _ _ ⟨rfl, b1, b2, z, hE⟩
        rw [hE]
        show G 5 17 [(a49, .inr ("com/example/lambdaloom/lambdaloom/Route", [("nodes", "[I", .ref b1), ("fibres", "[I", .ref b2), ("hash", "I", .int z)])), (a54, .inl (.int, [.int (0 : Int32), .int (1 : Int32), .int (2 : Int32), .int (3 : Int32)])), (a73, .inl (.int, [.int (0 : Int32), .int (1 : Int32), .int (2 : Int32)])), (b1, .inl (.int, [.int (0 : Int32), .int (1 : Int32), .int (2 : Int32), .int (3 : Int32)])), (b2, .inl (.int, [.int (0 : Int32), .int (1 : Int32), .int (2 : Int32)]))] 90 [.val (.int p0), .val (.int p1), .val (.int p2), .val (.int p3), .val (.int p4), .val (.int w0), .val (.int w1), .val (.int w2), .val (.int (0 : Int32)), .unset, .unset, .unset, .unset] [.ref a49]
        refine C.astore (q := 92) (ls' := [.val (.int p0), .val (.int p1), .val (.int p2), .val (.int p3), .val (.int p4), .val (.int w0), .val (.int w1), .val (.int w2), .val (.int (0 : Int32)), .val (.ref a49), .unset, .unset, .unset]) at_90 rfl rfl rfl ?_
        refine C.iconst (q := 93) (z := (3 : Int32)) at_92 rfl rfl ?_
        refine C.newarr (q := 95) 3 (ty := .int) (vs := [.int (0 : Int32), .int (0 : Int32), .int (0 : Int32)]) (k' := 6) (n' := 20) at_93 (hw _ (List.mem_of_getElem? (i := 4) rfl)) (by decide) (by decide) (by decide) (by decide) (by decide) rfl rfl rfl rfl rfl (fun a93 => ?_)
        show G 6 20 [(a49, .inr ("com/example/lambdaloom/lambdaloom/Route", [("nodes", "[I", .ref b1), ("fibres", "[I", .ref b2), ("hash", "I", .int z)])), (a54, .inl (.int, [.int (0 : Int32), .int (1 : Int32), .int (2 : Int32), .int (3 : Int32)])), (a73, .inl (.int, [.int (0 : Int32), .int (1 : Int32), .int (2 : Int32)])), (b1, .inl (.int, [.int (0 : Int32), .int (1 : Int32), .int (2 : Int32), .int (3 : Int32)])), (b2, .inl (.int, [.int (0 : Int32), .int (1 : Int32), .int (2 : Int32)])), (a93, .inl (.int, [.int (0 : Int32), .int (0 : Int32), .int (0 : Int32)]))] 95 [.val (.int p0), .val (.int p1), .val (.int p2), .val (.int p3), .val (.int p4), .val (.int w0), .val (.int w1), .val (.int w2), .val (.int (0 : Int32)), .val (.ref a49), .unset, .unset, .unset] [.ref a93]
        refine C.dup (q := 96) at_95 rfl rfl ?_
        refine C.iconst (q := 97) (z := (0 : Int32)) at_96 rfl rfl ?_
        refine C.iload (q := 99) at_97 rfl rfl ?_
        refine C.iastore (q := 100) 5 (H' := [(a49, .inr ("com/example/lambdaloom/lambdaloom/Route", [("nodes", "[I", .ref b1), ("fibres", "[I", .ref b2), ("hash", "I", .int z)])), (a54, .inl (.int, [.int (0 : Int32), .int (1 : Int32), .int (2 : Int32), .int (3 : Int32)])), (a73, .inl (.int, [.int (0 : Int32), .int (1 : Int32), .int (2 : Int32)])), (b1, .inl (.int, [.int (0 : Int32), .int (1 : Int32), .int (2 : Int32), .int (3 : Int32)])), (b2, .inl (.int, [.int (0 : Int32), .int (1 : Int32), .int (2 : Int32)])), (a93, .inl (.int, [.int w0, .int (0 : Int32), .int (0 : Int32)]))]) at_99 rfl (by decide) (by show _ < 3; decide) rfl rfl ?_
        refine C.dup (q := 101) at_100 rfl rfl ?_
        refine C.iconst (q := 102) (z := (1 : Int32)) at_101 rfl rfl ?_
        refine C.iload (q := 104) at_102 rfl rfl ?_
        refine C.iastore (q := 105) 5 (H' := [(a49, .inr ("com/example/lambdaloom/lambdaloom/Route", [("nodes", "[I", .ref b1), ("fibres", "[I", .ref b2), ("hash", "I", .int z)])), (a54, .inl (.int, [.int (0 : Int32), .int (1 : Int32), .int (2 : Int32), .int (3 : Int32)])), (a73, .inl (.int, [.int (0 : Int32), .int (1 : Int32), .int (2 : Int32)])), (b1, .inl (.int, [.int (0 : Int32), .int (1 : Int32), .int (2 : Int32), .int (3 : Int32)])), (b2, .inl (.int, [.int (0 : Int32), .int (1 : Int32), .int (2 : Int32)])), (a93, .inl (.int, [.int w0, .int w1, .int (0 : Int32)]))]) at_104 rfl (by decide) (by show _ < 3; decide) rfl rfl ?_
        refine C.dup (q := 106) at_105 rfl rfl ?_
        refine C.iconst (q := 107) (z := (2 : Int32)) at_106 rfl rfl ?_
        refine C.iload (q := 109) at_107 rfl rfl ?_
        refine C.iastore (q := 110) 5 (H' := [(a49, .inr ("com/example/lambdaloom/lambdaloom/Route", [("nodes", "[I", .ref b1), ("fibres", "[I", .ref b2), ("hash", "I", .int z)])), (a54, .inl (.int, [.int (0 : Int32), .int (1 : Int32), .int (2 : Int32), .int (3 : Int32)])), (a73, .inl (.int, [.int (0 : Int32), .int (1 : Int32), .int (2 : Int32)])), (b1, .inl (.int, [.int (0 : Int32), .int (1 : Int32), .int (2 : Int32), .int (3 : Int32)])), (b2, .inl (.int, [.int (0 : Int32), .int (1 : Int32), .int (2 : Int32)])), (a93, .inl (.int, [.int w0, .int w1, .int w2]))]) at_109 rfl (by decide) (by show _ < 3; decide) rfl rfl ?_
        refine C.astore (q := 112) (ls' := [.val (.int p0), .val (.int p1), .val (.int p2), .val (.int p3), .val (.int p4), .val (.int w0), .val (.int w1), .val (.int w2), .val (.int (0 : Int32)), .val (.ref a49), .val (.ref a93), .unset, .unset]) at_110 rfl rfl rfl ?_
        refine C.newobj (q := 115) [("route", "Lcom/example/lambdaloom/lambdaloom/Route;", (.object "com/example/lambdaloom/lambdaloom/Route")), ("wavelengths", "[I", (.array .int)), ("hash", "I", .int)] (fs := [("route", "Lcom/example/lambdaloom/lambdaloom/Route;", .null), ("wavelengths", "[I", .null), ("hash", "I", .int (0 : Int32))]) (k' := 7) (n' := 23) at_112 (hw _ (List.mem_of_getElem? (i := 38) rfl)) (hw _ (List.mem_of_getElem? (i := 39) rfl)) (hw _ (List.mem_of_getElem? (i := 40) rfl)) ⟨⟨Or.inr (hw _ (List.mem_of_getElem? (i := 51) rfl)), by decide⟩, ⟨⟨Or.inr (hw _ (List.mem_of_getElem? (i := 55) rfl)), by decide⟩, ⟨⟨Or.inr (hw _ (List.mem_of_getElem? (i := 63) rfl)), by decide⟩, trivial⟩⟩⟩ (by decide) (by decide) (by decide) rfl rfl rfl rfl (fun a112 => ?_)
        show G 7 23 [(a49, .inr ("com/example/lambdaloom/lambdaloom/Route", [("nodes", "[I", .ref b1), ("fibres", "[I", .ref b2), ("hash", "I", .int z)])), (a54, .inl (.int, [.int (0 : Int32), .int (1 : Int32), .int (2 : Int32), .int (3 : Int32)])), (a73, .inl (.int, [.int (0 : Int32), .int (1 : Int32), .int (2 : Int32)])), (b1, .inl (.int, [.int (0 : Int32), .int (1 : Int32), .int (2 : Int32), .int (3 : Int32)])), (b2, .inl (.int, [.int (0 : Int32), .int (1 : Int32), .int (2 : Int32)])), (a93, .inl (.int, [.int w0, .int w1, .int w2])), (a112, .inr ("com/example/lambdaloom/lambdaloom/Lightpath", [("route", "Lcom/example/lambdaloom/lambdaloom/Route;", .null), ("wavelengths", "[I", .null), ("hash", "I", .int (0 : Int32))]))] 115 [.val (.int p0), .val (.int p1), .val (.int p2), .val (.int p3), .val (.int p4), .val (.int w0), .val (.int w1), .val (.int w2), .val (.int (0 : Int32)), .val (.ref a49), .val (.ref a93), .unset, .unset] [.ref a112]
        refine C.dup (q := 116) at_115 rfl rfl ?_
        refine C.aload (q := 118) at_116 rfl rfl rfl ?_
        refine C.aload (q := 120) at_118 rfl rfl rfl ?_
        refine C.callI (q := 123) 1 a112 [.ref a49, .ref a93] [.ref a112] at_120 (hw _ (List.mem_of_getElem? (i := 41) rfl)) (hw _ (List.mem_of_getElem? (i := 42) rfl)) (hw _ (List.mem_of_getElem? (i := 40) rfl)) (hw _ (List.mem_of_getElem? (i := 43) rfl)) (own_cl l Z a0 n0 hw [] a112 a49 a54 a73 b1 b2 a93 z (0 : Int32) (1 : Int32) (2 : Int32) (3 : Int32) (0 : Int32) (1 : Int32) (2 : Int32) w0 w1 w2 q0 q1 q2) rfl (by decide) (by decide) (by decide) own_pd5 rfl rfl rfl (Nat.le_of_eq rfl) (by decide) (by decide) rfl ?_
        rintro _ _ ⟨rfl, b, y, hE⟩
        rw [hE]
        show G 8 26 [(a49, .inr ("com/example/lambdaloom/lambdaloom/Route", [("nodes", "[I", .ref b1), ("fibres", "[I", .ref b2), ("hash", "I", .int z)])), (a54, .inl (.int, [.int (0 : Int32), .int (1 : Int32), .int (2 : Int32), .int (3 : Int32)])), (a73, .inl (.int, [.int (0 : Int32), .int (1 : Int32), .int (2 : Int32)])), (b1, .inl (.int, [.int (0 : Int32), .int (1 : Int32), .int (2 : Int32), .int (3 : Int32)])), (b2, .inl (.int, [.int (0 : Int32), .int (1 : Int32), .int (2 : Int32)])), (a93, .inl (.int, [.int w0, .int w1, .int w2])), (a112, .inr ("com/example/lambdaloom/lambdaloom/Lightpath", [("route", "Lcom/example/lambdaloom/lambdaloom/Route;", .ref a49), ("wavelengths", "[I", .ref b), ("hash", "I", .int y)])), (b, .inl (.int, [.int w0, .int w1, .int w2]))] 123 [.val (.int p0), .val (.int p1), .val (.int p2), .val (.int p3), .val (.int p4), .val (.int w0), .val (.int w1), .val (.int w2), .val (.int (0 : Int32)), .val (.ref a49), .val (.ref a93), .unset, .unset] [.ref a112]
        refine C.astore (q := 125) (ls' := [.val (.int p0), .val (.int p1), .val (.int p2), .val (.int p3), .val (.int p4), .val (.int w0), .val (.int w1), .val (.int w2), .val (.int (0 : Int32)), .val (.ref a49), .val (.ref a93), .val (.ref a112), .unset]) at_123 rfl rfl rfl ?_
        refine C.iload (q := 127) at_125 rfl rfl ?_
        refine C.ifNe (q := 136) (q' := 130) at_127 (by decide) (by decide) rfl (fun h127 => ?_) (fun h127 => absurd (by decide) h127)
        refine C.iconst (q := 131) (z := (0 : Int32)) at_130 rfl rfl ?_
        refine C.istore (q := 133) (ls' := [.val (.int p0), .val (.int p1), .val (.int p2), .val (.int p3), .val (.int p4), .val (.int w0), .val (.int w1), .val (.int w2), .val (.int (0 : Int32)), .val (.ref a49), .val (.ref a93), .val (.ref a112), .val (.int (0 : Int32))]) at_131 rfl rfl ?_
        refine C.goto (q := 173) at_133 (by decide) (by decide) ?_
        refine C.aload (q := 175) at_173 rfl rfl rfl ?_
        refine C.iload (q := 177) at_175 rfl rfl ?_
        refine C.callV (q := 180) 0 6 [.int (0 : Int32)] [] at_177 (hw _ (List.mem_of_getElem? (i := 64) rfl)) (hw _ (List.mem_of_getElem? (i := 65) rfl)) (hw _ (List.mem_of_getElem? (i := 66) rfl)) (hw _ (List.mem_of_getElem? (i := 67) rfl)) (hw _ (List.mem_of_getElem? (i := 40) rfl)) (hw _ (List.mem_of_getElem? (i := 68) rfl)) (own_cb0 l Z a0 n0 hw [] a112 a49 a54 a73 b1 b2 a93 b z y (0 : Int32) (1 : Int32) (2 : Int32) (3 : Int32) (0 : Int32) (1 : Int32) (2 : Int32) w0 w1 w2) (by decide) (by decide) (by decide) own_pd6 rfl rfl rfl rfl (Nat.le_of_eq rfl) (by decide) (by decide) rfl ?_
        rintro _ _ ⟨rfl, hE⟩
        rw [hE]
        show G 8 26 [(a49, .inr ("com/example/lambdaloom/lambdaloom/Route", [("nodes", "[I", .ref b1), ("fibres", "[I", .ref b2), ("hash", "I", .int z)])), (a54, .inl (.int, [.int (0 : Int32), .int (1 : Int32), .int (2 : Int32), .int (3 : Int32)])), (a73, .inl (.int, [.int (0 : Int32), .int (1 : Int32), .int (2 : Int32)])), (b1, .inl (.int, [.int (0 : Int32), .int (1 : Int32), .int (2 : Int32), .int (3 : Int32)])), (b2, .inl (.int, [.int (0 : Int32), .int (1 : Int32), .int (2 : Int32)])), (a93, .inl (.int, [.int w0, .int w1, .int w2])), (a112, .inr ("com/example/lambdaloom/lambdaloom/Lightpath", [("route", "Lcom/example/lambdaloom/lambdaloom/Route;", .ref a49), ("wavelengths", "[I", .ref b), ("hash", "I", .int y)])), (b, .inl (.int, [.int w0, .int w1, .int w2]))] 180 [.val (.int p0), .val (.int p1), .val (.int p2), .val (.int p3), .val (.int p4), .val (.int w0), .val (.int w1), .val (.int w2), .val (.int (0 : Int32)), .val (.ref a49), .val (.ref a93), .val (.ref a112), .val (.int (0 : Int32))] [.int (0 : Int32)]
        refine C.iload (q := 182) at_180 rfl rfl ?_
        refine C.icmpNe (q := 189) (q' := 185) at_182 (by decide) (by decide) rfl (fun h182 => ?_) (fun h182 => absurd (by first | exact own_i0 h146 | exact own_i1 h146 | exact own_i0 h163 | exact own_i1 h163 | rfl) h182)
        refine C.iconst (q := 186) (z := (1 : Int32)) at_185 rfl rfl ?_
        refine C.goto (q := 190) at_186 (by decide) (by decide) ?_
        exact C.retB (by simp) at_190 (by decide) (by decide) rfl
      · refine C.istore (q := 49) (ls' := [.val (.int p0), .val (.int p1), .val (.int p2), .val (.int p3), .val (.int p4), .val (.int w0), .val (.int w1), .val (.int w2), .val (.int (1 : Int32)), .unset, .unset, .unset, .unset]) at_47 rfl rfl ?_
        refine C.newobj (q := 52) [("nodes", "[I", (.array .int)), ("fibres", "[I", (.array .int)), ("hash", "I", .int)] (fs := [("nodes", "[I", .null), ("fibres", "[I", .null), ("hash", "I", .int (0 : Int32))]) (k' := 1) (n' := 3) at_49 (hw _ (List.mem_of_getElem? (i := 1) rfl)) (hw _ (List.mem_of_getElem? (i := 2) rfl)) (hw _ (List.mem_of_getElem? (i := 3) rfl)) ⟨⟨Or.inr (hw _ (List.mem_of_getElem? (i := 21) rfl)), by decide⟩, ⟨⟨Or.inr (hw _ (List.mem_of_getElem? (i := 23) rfl)), by decide⟩, ⟨⟨Or.inr (hw _ (List.mem_of_getElem? (i := 37) rfl)), by decide⟩, trivial⟩⟩⟩ (by decide) (by decide) (by decide) rfl rfl rfl rfl (fun a49 => ?_)
        show G 1 3 [(a49, .inr ("com/example/lambdaloom/lambdaloom/Route", [("nodes", "[I", .null), ("fibres", "[I", .null), ("hash", "I", .int (0 : Int32))]))] 52 [.val (.int p0), .val (.int p1), .val (.int p2), .val (.int p3), .val (.int p4), .val (.int w0), .val (.int w1), .val (.int w2), .val (.int (1 : Int32)), .unset, .unset, .unset, .unset] [.ref a49]
        refine C.dup (q := 53) at_52 rfl rfl ?_
        refine C.iconst (q := 54) (z := (4 : Int32)) at_53 rfl rfl ?_
        refine C.newarr (q := 56) 4 (ty := .int) (vs := [.int (0 : Int32), .int (0 : Int32), .int (0 : Int32), .int (0 : Int32)]) (k' := 2) (n' := 7) at_54 (hw _ (List.mem_of_getElem? (i := 4) rfl)) (by decide) (by decide) (by decide) (by decide) (by decide) rfl rfl rfl rfl rfl (fun a54 => ?_)
        show G 2 7 [(a49, .inr ("com/example/lambdaloom/lambdaloom/Route", [("nodes", "[I", .null), ("fibres", "[I", .null), ("hash", "I", .int (0 : Int32))])), (a54, .inl (.int, [.int (0 : Int32), .int (0 : Int32), .int (0 : Int32), .int (0 : Int32)]))] 56 [.val (.int p0), .val (.int p1), .val (.int p2), .val (.int p3), .val (.int p4), .val (.int w0), .val (.int w1), .val (.int w2), .val (.int (1 : Int32)), .unset, .unset, .unset, .unset] [.ref a54, .ref a49, .ref a49]
        refine C.dup (q := 57) at_56 rfl rfl ?_
        refine C.iconst (q := 58) (z := (0 : Int32)) at_57 rfl rfl ?_
        refine C.iconst (q := 59) (z := (0 : Int32)) at_58 rfl rfl ?_
        refine C.iastore (q := 60) 1 (H' := [(a49, .inr ("com/example/lambdaloom/lambdaloom/Route", [("nodes", "[I", .null), ("fibres", "[I", .null), ("hash", "I", .int (0 : Int32))])), (a54, .inl (.int, [.int (0 : Int32), .int (0 : Int32), .int (0 : Int32), .int (0 : Int32)]))]) at_59 rfl (by decide) (by show _ < 4; decide) rfl rfl ?_
        refine C.dup (q := 61) at_60 rfl rfl ?_
        refine C.iconst (q := 62) (z := (1 : Int32)) at_61 rfl rfl ?_
        refine C.iconst (q := 63) (z := (1 : Int32)) at_62 rfl rfl ?_
        refine C.iastore (q := 64) 1 (H' := [(a49, .inr ("com/example/lambdaloom/lambdaloom/Route", [("nodes", "[I", .null), ("fibres", "[I", .null), ("hash", "I", .int (0 : Int32))])), (a54, .inl (.int, [.int (0 : Int32), .int (1 : Int32), .int (0 : Int32), .int (0 : Int32)]))]) at_63 rfl (by decide) (by show _ < 4; decide) rfl rfl ?_
        refine C.dup (q := 65) at_64 rfl rfl ?_
        refine C.iconst (q := 66) (z := (2 : Int32)) at_65 rfl rfl ?_
        refine C.iconst (q := 67) (z := (2 : Int32)) at_66 rfl rfl ?_
        refine C.iastore (q := 68) 1 (H' := [(a49, .inr ("com/example/lambdaloom/lambdaloom/Route", [("nodes", "[I", .null), ("fibres", "[I", .null), ("hash", "I", .int (0 : Int32))])), (a54, .inl (.int, [.int (0 : Int32), .int (1 : Int32), .int (2 : Int32), .int (0 : Int32)]))]) at_67 rfl (by decide) (by show _ < 4; decide) rfl rfl ?_
        refine C.dup (q := 69) at_68 rfl rfl ?_
        refine C.iconst (q := 70) (z := (3 : Int32)) at_69 rfl rfl ?_
        refine C.iconst (q := 71) (z := (3 : Int32)) at_70 rfl rfl ?_
        refine C.iastore (q := 72) 1 (H' := [(a49, .inr ("com/example/lambdaloom/lambdaloom/Route", [("nodes", "[I", .null), ("fibres", "[I", .null), ("hash", "I", .int (0 : Int32))])), (a54, .inl (.int, [.int (0 : Int32), .int (1 : Int32), .int (2 : Int32), .int (3 : Int32)]))]) at_71 rfl (by decide) (by show _ < 4; decide) rfl rfl ?_
        refine C.iconst (q := 73) (z := (3 : Int32)) at_72 rfl rfl ?_
        refine C.newarr (q := 75) 3 (ty := .int) (vs := [.int (0 : Int32), .int (0 : Int32), .int (0 : Int32)]) (k' := 3) (n' := 10) at_73 (hw _ (List.mem_of_getElem? (i := 4) rfl)) (by decide) (by decide) (by decide) (by decide) (by decide) rfl rfl rfl rfl rfl (fun a73 => ?_)
        show G 3 10 [(a49, .inr ("com/example/lambdaloom/lambdaloom/Route", [("nodes", "[I", .null), ("fibres", "[I", .null), ("hash", "I", .int (0 : Int32))])), (a54, .inl (.int, [.int (0 : Int32), .int (1 : Int32), .int (2 : Int32), .int (3 : Int32)])), (a73, .inl (.int, [.int (0 : Int32), .int (0 : Int32), .int (0 : Int32)]))] 75 [.val (.int p0), .val (.int p1), .val (.int p2), .val (.int p3), .val (.int p4), .val (.int w0), .val (.int w1), .val (.int w2), .val (.int (1 : Int32)), .unset, .unset, .unset, .unset] [.ref a73, .ref a54, .ref a49, .ref a49]
        refine C.dup (q := 76) at_75 rfl rfl ?_
        refine C.iconst (q := 77) (z := (0 : Int32)) at_76 rfl rfl ?_
        refine C.iconst (q := 78) (z := (0 : Int32)) at_77 rfl rfl ?_
        refine C.iastore (q := 79) 2 (H' := [(a49, .inr ("com/example/lambdaloom/lambdaloom/Route", [("nodes", "[I", .null), ("fibres", "[I", .null), ("hash", "I", .int (0 : Int32))])), (a54, .inl (.int, [.int (0 : Int32), .int (1 : Int32), .int (2 : Int32), .int (3 : Int32)])), (a73, .inl (.int, [.int (0 : Int32), .int (0 : Int32), .int (0 : Int32)]))]) at_78 rfl (by decide) (by show _ < 3; decide) rfl rfl ?_
        refine C.dup (q := 80) at_79 rfl rfl ?_
        refine C.iconst (q := 81) (z := (1 : Int32)) at_80 rfl rfl ?_
        refine C.iconst (q := 82) (z := (1 : Int32)) at_81 rfl rfl ?_
        refine C.iastore (q := 83) 2 (H' := [(a49, .inr ("com/example/lambdaloom/lambdaloom/Route", [("nodes", "[I", .null), ("fibres", "[I", .null), ("hash", "I", .int (0 : Int32))])), (a54, .inl (.int, [.int (0 : Int32), .int (1 : Int32), .int (2 : Int32), .int (3 : Int32)])), (a73, .inl (.int, [.int (0 : Int32), .int (1 : Int32), .int (0 : Int32)]))]) at_82 rfl (by decide) (by show _ < 3; decide) rfl rfl ?_
        refine C.dup (q := 84) at_83 rfl rfl ?_
        refine C.iconst (q := 85) (z := (2 : Int32)) at_84 rfl rfl ?_
        refine C.iconst (q := 86) (z := (2 : Int32)) at_85 rfl rfl ?_
        refine C.iastore (q := 87) 2 (H' := [(a49, .inr ("com/example/lambdaloom/lambdaloom/Route", [("nodes", "[I", .null), ("fibres", "[I", .null), ("hash", "I", .int (0 : Int32))])), (a54, .inl (.int, [.int (0 : Int32), .int (1 : Int32), .int (2 : Int32), .int (3 : Int32)])), (a73, .inl (.int, [.int (0 : Int32), .int (1 : Int32), .int (2 : Int32)]))]) at_86 rfl (by decide) (by show _ < 3; decide) rfl rfl ?_
        refine C.callI (q := 90) 1 a49 [.ref a54, .ref a73] [.ref a49] at_87 (hw _ (List.mem_of_getElem? (i := 5) rfl)) (hw _ (List.mem_of_getElem? (i := 6) rfl)) (hw _ (List.mem_of_getElem? (i := 3) rfl)) (hw _ (List.mem_of_getElem? (i := 7) rfl)) (own_cr l Z a0 n0 hw [] a49 a54 a73 (0 : Int32) (1 : Int32) (2 : Int32) (3 : Int32) (0 : Int32) (1 : Int32) (2 : Int32)) rfl (by decide) (by decide) (by decide) own_pd4 rfl rfl rfl (Nat.le_of_eq rfl) (by decide) (by decide) rfl ?_
        rintro _ _ ⟨rfl, b1, b2, z, hE⟩
        rw [hE]
        show G 5 17 [(a49, .inr ("com/example/lambdaloom/lambdaloom/Route", [("nodes", "[I", .ref b1), ("fibres", "[I", .ref b2), ("hash", "I", .int z)])), (a54, .inl (.int, [.int (0 : Int32), .int (1 : Int32), .int (2 : Int32), .int (3 : Int32)])), (a73, .inl (.int, [.int (0 : Int32), .int (1 : Int32), .int (2 : Int32)])), (b1, .inl (.int, [.int (0 : Int32), .int (1 : Int32), .int (2 : Int32), .int (3 : Int32)])), (b2, .inl (.int, [.int (0 : Int32), .int (1 : Int32), .int (2 : Int32)]))] 90 [.val (.int p0), .val (.int p1), .val (.int p2), .val (.int p3), .val (.int p4), .val (.int w0), .val (.int w1), .val (.int w2), .val (.int (1 : Int32)), .unset, .unset, .unset, .unset] [.ref a49]
        refine C.astore (q := 92) (ls' := [.val (.int p0), .val (.int p1), .val (.int p2), .val (.int p3), .val (.int p4), .val (.int w0), .val (.int w1), .val (.int w2), .val (.int (1 : Int32)), .val (.ref a49), .unset, .unset, .unset]) at_90 rfl rfl rfl ?_
        refine C.iconst (q := 93) (z := (3 : Int32)) at_92 rfl rfl ?_
        refine C.newarr (q := 95) 3 (ty := .int) (vs := [.int (0 : Int32), .int (0 : Int32), .int (0 : Int32)]) (k' := 6) (n' := 20) at_93 (hw _ (List.mem_of_getElem? (i := 4) rfl)) (by decide) (by decide) (by decide) (by decide) (by decide) rfl rfl rfl rfl rfl (fun a93 => ?_)
        show G 6 20 [(a49, .inr ("com/example/lambdaloom/lambdaloom/Route", [("nodes", "[I", .ref b1), ("fibres", "[I", .ref b2), ("hash", "I", .int z)])), (a54, .inl (.int, [.int (0 : Int32), .int (1 : Int32), .int (2 : Int32), .int (3 : Int32)])), (a73, .inl (.int, [.int (0 : Int32), .int (1 : Int32), .int (2 : Int32)])), (b1, .inl (.int, [.int (0 : Int32), .int (1 : Int32), .int (2 : Int32), .int (3 : Int32)])), (b2, .inl (.int, [.int (0 : Int32), .int (1 : Int32), .int (2 : Int32)])), (a93, .inl (.int, [.int (0 : Int32), .int (0 : Int32), .int (0 : Int32)]))] 95 [.val (.int p0), .val (.int p1), .val (.int p2), .val (.int p3), .val (.int p4), .val (.int w0), .val (.int w1), .val (.int w2), .val (.int (1 : Int32)), .val (.ref a49), .unset, .unset, .unset] [.ref a93]
        refine C.dup (q := 96) at_95 rfl rfl ?_
        refine C.iconst (q := 97) (z := (0 : Int32)) at_96 rfl rfl ?_
        refine C.iload (q := 99) at_97 rfl rfl ?_
        refine C.iastore (q := 100) 5 (H' := [(a49, .inr ("com/example/lambdaloom/lambdaloom/Route", [("nodes", "[I", .ref b1), ("fibres", "[I", .ref b2), ("hash", "I", .int z)])), (a54, .inl (.int, [.int (0 : Int32), .int (1 : Int32), .int (2 : Int32), .int (3 : Int32)])), (a73, .inl (.int, [.int (0 : Int32), .int (1 : Int32), .int (2 : Int32)])), (b1, .inl (.int, [.int (0 : Int32), .int (1 : Int32), .int (2 : Int32), .int (3 : Int32)])), (b2, .inl (.int, [.int (0 : Int32), .int (1 : Int32), .int (2 : Int32)])), (a93, .inl (.int, [.int w0, .int (0 : Int32), .int (0 : Int32)]))]) at_99 rfl (by decide) (by show _ < 3; decide) rfl rfl ?_
        refine C.dup (q := 101) at_100 rfl rfl ?_
        refine C.iconst (q := 102) (z := (1 : Int32)) at_101 rfl rfl ?_
        refine C.iload (q := 104) at_102 rfl rfl ?_
        refine C.iastore (q := 105) 5 (H' := [(a49, .inr ("com/example/lambdaloom/lambdaloom/Route", [("nodes", "[I", .ref b1), ("fibres", "[I", .ref b2), ("hash", "I", .int z)])), (a54, .inl (.int, [.int (0 : Int32), .int (1 : Int32), .int (2 : Int32), .int (3 : Int32)])), (a73, .inl (.int, [.int (0 : Int32), .int (1 : Int32), .int (2 : Int32)])), (b1, .inl (.int, [.int (0 : Int32), .int (1 : Int32), .int (2 : Int32), .int (3 : Int32)])), (b2, .inl (.int, [.int (0 : Int32), .int (1 : Int32), .int (2 : Int32)])), (a93, .inl (.int, [.int w0, .int w1, .int (0 : Int32)]))]) at_104 rfl (by decide) (by show _ < 3; decide) rfl rfl ?_
        refine C.dup (q := 106) at_105 rfl rfl ?_
        refine C.iconst (q := 107) (z := (2 : Int32)) at_106 rfl rfl ?_
        refine C.iload (q := 109) at_107 rfl rfl ?_
        refine C.iastore (q := 110) 5 (H' := [(a49, .inr ("com/example/lambdaloom/lambdaloom/Route", [("nodes", "[I", .ref b1), ("fibres", "[I", .ref b2), ("hash", "I", .int z)])), (a54, .inl (.int, [.int (0 : Int32), .int (1 : Int32), .int (2 : Int32), .int (3 : Int32)])), (a73, .inl (.int, [.int (0 : Int32), .int (1 : Int32), .int (2 : Int32)])), (b1, .inl (.int, [.int (0 : Int32), .int (1 : Int32), .int (2 : Int32), .int (3 : Int32)])), (b2, .inl (.int, [.int (0 : Int32), .int (1 : Int32), .int (2 : Int32)])), (a93, .inl (.int, [.int w0, .int w1, .int w2]))]) at_109 rfl (by decide) (by show _ < 3; decide) rfl rfl ?_
        refine C.astore (q := 112) (ls' := [.val (.int p0), .val (.int p1), .val (.int p2), .val (.int p3), .val (.int p4), .val (.int w0), .val (.int w1), .val (.int w2), .val (.int (1 : Int32)), .val (.ref a49), .val (.ref a93), .unset, .unset]) at_110 rfl rfl rfl ?_
        refine C.newobj (q := 115) [("route", "Lcom/example/lambdaloom/lambdaloom/Route;", (.object "com/example/lambdaloom/lambdaloom/Route")), ("wavelengths", "[I", (.array .int)), ("hash", "I", .int)] (fs := [("route", "Lcom/example/lambdaloom/lambdaloom/Route;", .null), ("wavelengths", "[I", .null), ("hash", "I", .int (0 : Int32))]) (k' := 7) (n' := 23) at_112 (hw _ (List.mem_of_getElem? (i := 38) rfl)) (hw _ (List.mem_of_getElem? (i := 39) rfl)) (hw _ (List.mem_of_getElem? (i := 40) rfl)) ⟨⟨Or.inr (hw _ (List.mem_of_getElem? (i := 51) rfl)), by decide⟩, ⟨⟨Or.inr (hw _ (List.mem_of_getElem? (i := 55) rfl)), by decide⟩, ⟨⟨Or.inr (hw _ (List.mem_of_getElem? (i := 63) rfl)), by decide⟩, trivial⟩⟩⟩ (by decide) (by decide) (by decide) rfl rfl rfl rfl (fun a112 => ?_)
        show G 7 23 [(a49, .inr ("com/example/lambdaloom/lambdaloom/Route", [("nodes", "[I", .ref b1), ("fibres", "[I", .ref b2), ("hash", "I", .int z)])), (a54, .inl (.int, [.int (0 : Int32), .int (1 : Int32), .int (2 : Int32), .int (3 : Int32)])), (a73, .inl (.int, [.int (0 : Int32), .int (1 : Int32), .int (2 : Int32)])), (b1, .inl (.int, [.int (0 : Int32), .int (1 : Int32), .int (2 : Int32), .int (3 : Int32)])), (b2, .inl (.int, [.int (0 : Int32), .int (1 : Int32), .int (2 : Int32)])), (a93, .inl (.int, [.int w0, .int w1, .int w2])), (a112, .inr ("com/example/lambdaloom/lambdaloom/Lightpath", [("route", "Lcom/example/lambdaloom/lambdaloom/Route;", .null), ("wavelengths", "[I", .null), ("hash", "I", .int (0 : Int32))]))] 115 [.val (.int p0), .val (.int p1), .val (.int p2), .val (.int p3), .val (.int p4), .val (.int w0), .val (.int w1), .val (.int w2), .val (.int (1 : Int32)), .val (.ref a49), .val (.ref a93), .unset, .unset] [.ref a112]
        refine C.dup (q := 116) at_115 rfl rfl ?_
        refine C.aload (q := 118) at_116 rfl rfl rfl ?_
        refine C.aload (q := 120) at_118 rfl rfl rfl ?_
        refine C.callI (q := 123) 1 a112 [.ref a49, .ref a93] [.ref a112] at_120 (hw _ (List.mem_of_getElem? (i := 41) rfl)) (hw _ (List.mem_of_getElem? (i := 42) rfl)) (hw _ (List.mem_of_getElem? (i := 40) rfl)) (hw _ (List.mem_of_getElem? (i := 43) rfl)) (own_cl l Z a0 n0 hw [] a112 a49 a54 a73 b1 b2 a93 z (0 : Int32) (1 : Int32) (2 : Int32) (3 : Int32) (0 : Int32) (1 : Int32) (2 : Int32) w0 w1 w2 q0 q1 q2) rfl (by decide) (by decide) (by decide) own_pd5 rfl rfl rfl (Nat.le_of_eq rfl) (by decide) (by decide) rfl ?_
        rintro _ _ ⟨rfl, b, y, hE⟩
        rw [hE]
        show G 8 26 [(a49, .inr ("com/example/lambdaloom/lambdaloom/Route", [("nodes", "[I", .ref b1), ("fibres", "[I", .ref b2), ("hash", "I", .int z)])), (a54, .inl (.int, [.int (0 : Int32), .int (1 : Int32), .int (2 : Int32), .int (3 : Int32)])), (a73, .inl (.int, [.int (0 : Int32), .int (1 : Int32), .int (2 : Int32)])), (b1, .inl (.int, [.int (0 : Int32), .int (1 : Int32), .int (2 : Int32), .int (3 : Int32)])), (b2, .inl (.int, [.int (0 : Int32), .int (1 : Int32), .int (2 : Int32)])), (a93, .inl (.int, [.int w0, .int w1, .int w2])), (a112, .inr ("com/example/lambdaloom/lambdaloom/Lightpath", [("route", "Lcom/example/lambdaloom/lambdaloom/Route;", .ref a49), ("wavelengths", "[I", .ref b), ("hash", "I", .int y)])), (b, .inl (.int, [.int w0, .int w1, .int w2]))] 123 [.val (.int p0), .val (.int p1), .val (.int p2), .val (.int p3), .val (.int p4), .val (.int w0), .val (.int w1), .val (.int w2), .val (.int (1 : Int32)), .val (.ref a49), .val (.ref a93), .unset, .unset] [.ref a112]
        refine C.astore (q := 125) (ls' := [.val (.int p0), .val (.int p1), .val (.int p2), .val (.int p3), .val (.int p4), .val (.int w0), .val (.int w1), .val (.int w2), .val (.int (1 : Int32)), .val (.ref a49), .val (.ref a93), .val (.ref a112), .unset]) at_123 rfl rfl rfl ?_
        refine C.iload (q := 127) at_125 rfl rfl ?_
        refine C.ifNe (q := 136) (q' := 130) at_127 (by decide) (by decide) rfl (fun h127 => absurd h127 (by decide)) (fun h127 => ?_)
        refine C.iload (q := 138) at_136 rfl rfl ?_
        refine C.iconst (q := 139) (z := (1 : Int32)) at_138 rfl rfl ?_
        refine C.icmpNe (q := 159) (q' := 142) at_139 (by decide) (by decide) rfl (fun h139 => ?_) (fun h139 => absurd (by decide) h139)
        refine C.iload (q := 144) at_142 rfl rfl ?_
        refine C.iload (q := 146) at_144 rfl rfl ?_
        refine C.icmpEq (q := 153) (q' := 149) at_146 (by decide) (by decide) rfl (fun h146 => ?_) (fun h146 => ?_)
        · refine C.iconst (q := 154) (z := (0 : Int32)) at_153 rfl rfl ?_
          refine C.istore (q := 156) (ls' := [.val (.int p0), .val (.int p1), .val (.int p2), .val (.int p3), .val (.int p4), .val (.int w0), .val (.int w1), .val (.int w2), .val (.int (1 : Int32)), .val (.ref a49), .val (.ref a93), .val (.ref a112), .val (.int (0 : Int32))]) at_154 rfl rfl ?_
          refine C.goto (q := 173) at_156 (by decide) (by decide) ?_
          refine C.aload (q := 175) at_173 rfl rfl rfl ?_
          refine C.iload (q := 177) at_175 rfl rfl ?_
          refine C.callV (q := 180) 0 6 [.int (1 : Int32)] [] at_177 (hw _ (List.mem_of_getElem? (i := 64) rfl)) (hw _ (List.mem_of_getElem? (i := 65) rfl)) (hw _ (List.mem_of_getElem? (i := 66) rfl)) (hw _ (List.mem_of_getElem? (i := 67) rfl)) (hw _ (List.mem_of_getElem? (i := 40) rfl)) (hw _ (List.mem_of_getElem? (i := 68) rfl)) (own_cb1 l Z a0 n0 hw [] a112 a49 a54 a73 b1 b2 a93 b z y (0 : Int32) (1 : Int32) (2 : Int32) (3 : Int32) (0 : Int32) (1 : Int32) (2 : Int32) w0 w1 w2) (by decide) (by decide) (by decide) own_pd6 rfl rfl rfl rfl (Nat.le_of_eq rfl) (by decide) (by decide) rfl ?_
          rintro _ _ ⟨rfl, hE⟩
          rw [hE]
          show G 8 26 [(a49, .inr ("com/example/lambdaloom/lambdaloom/Route", [("nodes", "[I", .ref b1), ("fibres", "[I", .ref b2), ("hash", "I", .int z)])), (a54, .inl (.int, [.int (0 : Int32), .int (1 : Int32), .int (2 : Int32), .int (3 : Int32)])), (a73, .inl (.int, [.int (0 : Int32), .int (1 : Int32), .int (2 : Int32)])), (b1, .inl (.int, [.int (0 : Int32), .int (1 : Int32), .int (2 : Int32), .int (3 : Int32)])), (b2, .inl (.int, [.int (0 : Int32), .int (1 : Int32), .int (2 : Int32)])), (a93, .inl (.int, [.int w0, .int w1, .int w2])), (a112, .inr ("com/example/lambdaloom/lambdaloom/Lightpath", [("route", "Lcom/example/lambdaloom/lambdaloom/Route;", .ref a49), ("wavelengths", "[I", .ref b), ("hash", "I", .int y)])), (b, .inl (.int, [.int w0, .int w1, .int w2]))] 180 [.val (.int p0), .val (.int p1), .val (.int p2), .val (.int p3), .val (.int p4), .val (.int w0), .val (.int w1), .val (.int w2), .val (.int (1 : Int32)), .val (.ref a49), .val (.ref a93), .val (.ref a112), .val (.int (0 : Int32))] [.int (if w1 = w0 then (0 : Int32) else (1 : Int32))]
          refine C.iload (q := 182) at_180 rfl rfl ?_
          refine C.icmpNe (q := 189) (q' := 185) at_182 (by decide) (by decide) rfl (fun h182 => ?_) (fun h182 => absurd (by first | exact own_i0 h146 | exact own_i1 h146 | exact own_i0 h163 | exact own_i1 h163 | rfl) h182)
          refine C.iconst (q := 186) (z := (1 : Int32)) at_185 rfl rfl ?_
          refine C.goto (q := 190) at_186 (by decide) (by decide) ?_
          exact C.retB (by simp) at_190 (by decide) (by decide) rfl
        · refine C.iconst (q := 150) (z := (1 : Int32)) at_149 rfl rfl ?_
          refine C.goto (q := 154) at_150 (by decide) (by decide) ?_
          refine C.istore (q := 156) (ls' := [.val (.int p0), .val (.int p1), .val (.int p2), .val (.int p3), .val (.int p4), .val (.int w0), .val (.int w1), .val (.int w2), .val (.int (1 : Int32)), .val (.ref a49), .val (.ref a93), .val (.ref a112), .val (.int (1 : Int32))]) at_154 rfl rfl ?_
          refine C.goto (q := 173) at_156 (by decide) (by decide) ?_
          refine C.aload (q := 175) at_173 rfl rfl rfl ?_
          refine C.iload (q := 177) at_175 rfl rfl ?_
          refine C.callV (q := 180) 0 6 [.int (1 : Int32)] [] at_177 (hw _ (List.mem_of_getElem? (i := 64) rfl)) (hw _ (List.mem_of_getElem? (i := 65) rfl)) (hw _ (List.mem_of_getElem? (i := 66) rfl)) (hw _ (List.mem_of_getElem? (i := 67) rfl)) (hw _ (List.mem_of_getElem? (i := 40) rfl)) (hw _ (List.mem_of_getElem? (i := 68) rfl)) (own_cb1 l Z a0 n0 hw [] a112 a49 a54 a73 b1 b2 a93 b z y (0 : Int32) (1 : Int32) (2 : Int32) (3 : Int32) (0 : Int32) (1 : Int32) (2 : Int32) w0 w1 w2) (by decide) (by decide) (by decide) own_pd6 rfl rfl rfl rfl (Nat.le_of_eq rfl) (by decide) (by decide) rfl ?_
          rintro _ _ ⟨rfl, hE⟩
          rw [hE]
          show G 8 26 [(a49, .inr ("com/example/lambdaloom/lambdaloom/Route", [("nodes", "[I", .ref b1), ("fibres", "[I", .ref b2), ("hash", "I", .int z)])), (a54, .inl (.int, [.int (0 : Int32), .int (1 : Int32), .int (2 : Int32), .int (3 : Int32)])), (a73, .inl (.int, [.int (0 : Int32), .int (1 : Int32), .int (2 : Int32)])), (b1, .inl (.int, [.int (0 : Int32), .int (1 : Int32), .int (2 : Int32), .int (3 : Int32)])), (b2, .inl (.int, [.int (0 : Int32), .int (1 : Int32), .int (2 : Int32)])), (a93, .inl (.int, [.int w0, .int w1, .int w2])), (a112, .inr ("com/example/lambdaloom/lambdaloom/Lightpath", [("route", "Lcom/example/lambdaloom/lambdaloom/Route;", .ref a49), ("wavelengths", "[I", .ref b), ("hash", "I", .int y)])), (b, .inl (.int, [.int w0, .int w1, .int w2]))] 180 [.val (.int p0), .val (.int p1), .val (.int p2), .val (.int p3), .val (.int p4), .val (.int w0), .val (.int w1), .val (.int w2), .val (.int (1 : Int32)), .val (.ref a49), .val (.ref a93), .val (.ref a112), .val (.int (1 : Int32))] [.int (if w1 = w0 then (0 : Int32) else (1 : Int32))]
          refine C.iload (q := 182) at_180 rfl rfl ?_
          refine C.icmpNe (q := 189) (q' := 185) at_182 (by decide) (by decide) rfl (fun h182 => ?_) (fun h182 => absurd (by first | exact own_i0 h146 | exact own_i1 h146 | exact own_i0 h163 | exact own_i1 h163 | rfl) h182)
          refine C.iconst (q := 186) (z := (1 : Int32)) at_185 rfl rfl ?_
          refine C.goto (q := 190) at_186 (by decide) (by decide) ?_
          exact C.retB (by simp) at_190 (by decide) (by decide) rfl
      · refine C.istore (q := 49) (ls' := [.val (.int p0), .val (.int p1), .val (.int p2), .val (.int p3), .val (.int p4), .val (.int w0), .val (.int w1), .val (.int w2), .val (.int (2 : Int32)), .unset, .unset, .unset, .unset]) at_47 rfl rfl ?_
        refine C.newobj (q := 52) [("nodes", "[I", (.array .int)), ("fibres", "[I", (.array .int)), ("hash", "I", .int)] (fs := [("nodes", "[I", .null), ("fibres", "[I", .null), ("hash", "I", .int (0 : Int32))]) (k' := 1) (n' := 3) at_49 (hw _ (List.mem_of_getElem? (i := 1) rfl)) (hw _ (List.mem_of_getElem? (i := 2) rfl)) (hw _ (List.mem_of_getElem? (i := 3) rfl)) ⟨⟨Or.inr (hw _ (List.mem_of_getElem? (i := 21) rfl)), by decide⟩, ⟨⟨Or.inr (hw _ (List.mem_of_getElem? (i := 23) rfl)), by decide⟩, ⟨⟨Or.inr (hw _ (List.mem_of_getElem? (i := 37) rfl)), by decide⟩, trivial⟩⟩⟩ (by decide) (by decide) (by decide) rfl rfl rfl rfl (fun a49 => ?_)
        show G 1 3 [(a49, .inr ("com/example/lambdaloom/lambdaloom/Route", [("nodes", "[I", .null), ("fibres", "[I", .null), ("hash", "I", .int (0 : Int32))]))] 52 [.val (.int p0), .val (.int p1), .val (.int p2), .val (.int p3), .val (.int p4), .val (.int w0), .val (.int w1), .val (.int w2), .val (.int (2 : Int32)), .unset, .unset, .unset, .unset] [.ref a49]
        refine C.dup (q := 53) at_52 rfl rfl ?_
        refine C.iconst (q := 54) (z := (4 : Int32)) at_53 rfl rfl ?_
        refine C.newarr (q := 56) 4 (ty := .int) (vs := [.int (0 : Int32), .int (0 : Int32), .int (0 : Int32), .int (0 : Int32)]) (k' := 2) (n' := 7) at_54 (hw _ (List.mem_of_getElem? (i := 4) rfl)) (by decide) (by decide) (by decide) (by decide) (by decide) rfl rfl rfl rfl rfl (fun a54 => ?_)
        show G 2 7 [(a49, .inr ("com/example/lambdaloom/lambdaloom/Route", [("nodes", "[I", .null), ("fibres", "[I", .null), ("hash", "I", .int (0 : Int32))])), (a54, .inl (.int, [.int (0 : Int32), .int (0 : Int32), .int (0 : Int32), .int (0 : Int32)]))] 56 [.val (.int p0), .val (.int p1), .val (.int p2), .val (.int p3), .val (.int p4), .val (.int w0), .val (.int w1), .val (.int w2), .val (.int (2 : Int32)), .unset, .unset, .unset, .unset] [.ref a54, .ref a49, .ref a49]
        refine C.dup (q := 57) at_56 rfl rfl ?_
        refine C.iconst (q := 58) (z := (0 : Int32)) at_57 rfl rfl ?_
        refine C.iconst (q := 59) (z := (0 : Int32)) at_58 rfl rfl ?_
        refine C.iastore (q := 60) 1 (H' := [(a49, .inr ("com/example/lambdaloom/lambdaloom/Route", [("nodes", "[I", .null), ("fibres", "[I", .null), ("hash", "I", .int (0 : Int32))])), (a54, .inl (.int, [.int (0 : Int32), .int (0 : Int32), .int (0 : Int32), .int (0 : Int32)]))]) at_59 rfl (by decide) (by show _ < 4; decide) rfl rfl ?_
        refine C.dup (q := 61) at_60 rfl rfl ?_
        refine C.iconst (q := 62) (z := (1 : Int32)) at_61 rfl rfl ?_
        refine C.iconst (q := 63) (z := (1 : Int32)) at_62 rfl rfl ?_
        refine C.iastore (q := 64) 1 (H' := [(a49, .inr ("com/example/lambdaloom/lambdaloom/Route", [("nodes", "[I", .null), ("fibres", "[I", .null), ("hash", "I", .int (0 : Int32))])), (a54, .inl (.int, [.int (0 : Int32), .int (1 : Int32), .int (0 : Int32), .int (0 : Int32)]))]) at_63 rfl (by decide) (by show _ < 4; decide) rfl rfl ?_
        refine C.dup (q := 65) at_64 rfl rfl ?_
        refine C.iconst (q := 66) (z := (2 : Int32)) at_65 rfl rfl ?_
        refine C.iconst (q := 67) (z := (2 : Int32)) at_66 rfl rfl ?_
        refine C.iastore (q := 68) 1 (H' := [(a49, .inr ("com/example/lambdaloom/lambdaloom/Route", [("nodes", "[I", .null), ("fibres", "[I", .null), ("hash", "I", .int (0 : Int32))])), (a54, .inl (.int, [.int (0 : Int32), .int (1 : Int32), .int (2 : Int32), .int (0 : Int32)]))]) at_67 rfl (by decide) (by show _ < 4; decide) rfl rfl ?_
        refine C.dup (q := 69) at_68 rfl rfl ?_
        refine C.iconst (q := 70) (z := (3 : Int32)) at_69 rfl rfl ?_
        refine C.iconst (q := 71) (z := (3 : Int32)) at_70 rfl rfl ?_
        refine C.iastore (q := 72) 1 (H' := [(a49, .inr ("com/example/lambdaloom/lambdaloom/Route", [("nodes", "[I", .null), ("fibres", "[I", .null), ("hash", "I", .int (0 : Int32))])), (a54, .inl (.int, [.int (0 : Int32), .int (1 : Int32), .int (2 : Int32), .int (3 : Int32)]))]) at_71 rfl (by decide) (by show _ < 4; decide) rfl rfl ?_
        refine C.iconst (q := 73) (z := (3 : Int32)) at_72 rfl rfl ?_
        refine C.newarr (q := 75) 3 (ty := .int) (vs := [.int (0 : Int32), .int (0 : Int32), .int (0 : Int32)]) (k' := 3) (n' := 10) at_73 (hw _ (List.mem_of_getElem? (i := 4) rfl)) (by decide) (by decide) (by decide) (by decide) (by decide) rfl rfl rfl rfl rfl (fun a73 => ?_)
        show G 3 10 [(a49, .inr ("com/example/lambdaloom/lambdaloom/Route", [("nodes", "[I", .null), ("fibres", "[I", .null), ("hash", "I", .int (0 : Int32))])), (a54, .inl (.int, [.int (0 : Int32), .int (1 : Int32), .int (2 : Int32), .int (3 : Int32)])), (a73, .inl (.int, [.int (0 : Int32), .int (0 : Int32), .int (0 : Int32)]))] 75 [.val (.int p0), .val (.int p1), .val (.int p2), .val (.int p3), .val (.int p4), .val (.int w0), .val (.int w1), .val (.int w2), .val (.int (2 : Int32)), .unset, .unset, .unset, .unset] [.ref a73, .ref a54, .ref a49, .ref a49]
        refine C.dup (q := 76) at_75 rfl rfl ?_
        refine C.iconst (q := 77) (z := (0 : Int32)) at_76 rfl rfl ?_
        refine C.iconst (q := 78) (z := (0 : Int32)) at_77 rfl rfl ?_
        refine C.iastore (q := 79) 2 (H' := [(a49, .inr ("com/example/lambdaloom/lambdaloom/Route", [("nodes", "[I", .null), ("fibres", "[I", .null), ("hash", "I", .int (0 : Int32))])), (a54, .inl (.int, [.int (0 : Int32), .int (1 : Int32), .int (2 : Int32), .int (3 : Int32)])), (a73, .inl (.int, [.int (0 : Int32), .int (0 : Int32), .int (0 : Int32)]))]) at_78 rfl (by decide) (by show _ < 3; decide) rfl rfl ?_
        refine C.dup (q := 80) at_79 rfl rfl ?_
        refine C.iconst (q := 81) (z := (1 : Int32)) at_80 rfl rfl ?_
        refine C.iconst (q := 82) (z := (1 : Int32)) at_81 rfl rfl ?_
        refine C.iastore (q := 83) 2 (H' := [(a49, .inr ("com/example/lambdaloom/lambdaloom/Route", [("nodes", "[I", .null), ("fibres", "[I", .null), ("hash", "I", .int (0 : Int32))])), (a54, .inl (.int, [.int (0 : Int32), .int (1 : Int32), .int (2 : Int32), .int (3 : Int32)])), (a73, .inl (.int, [.int (0 : Int32), .int (1 : Int32), .int (0 : Int32)]))]) at_82 rfl (by decide) (by show _ < 3; decide) rfl rfl ?_
        refine C.dup (q := 84) at_83 rfl rfl ?_
        refine C.iconst (q := 85) (z := (2 : Int32)) at_84 rfl rfl ?_
        refine C.iconst (q := 86) (z := (2 : Int32)) at_85 rfl rfl ?_
        refine C.iastore (q := 87) 2 (H' := [(a49, .inr ("com/example/lambdaloom/lambdaloom/Route", [("nodes", "[I", .null), ("fibres", "[I", .null), ("hash", "I", .int (0 : Int32))])), (a54, .inl (.int, [.int (0 : Int32), .int (1 : Int32), .int (2 : Int32), .int (3 : Int32)])), (a73, .inl (.int, [.int (0 : Int32), .int (1 : Int32), .int (2 : Int32)]))]) at_86 rfl (by decide) (by show _ < 3; decide) rfl rfl ?_
        refine C.callI (q := 90) 1 a49 [.ref a54, .ref a73] [.ref a49] at_87 (hw _ (List.mem_of_getElem? (i := 5) rfl)) (hw _ (List.mem_of_getElem? (i := 6) rfl)) (hw _ (List.mem_of_getElem? (i := 3) rfl)) (hw _ (List.mem_of_getElem? (i := 7) rfl)) (own_cr l Z a0 n0 hw [] a49 a54 a73 (0 : Int32) (1 : Int32) (2 : Int32) (3 : Int32) (0 : Int32) (1 : Int32) (2 : Int32)) rfl (by decide) (by decide) (by decide) own_pd4 rfl rfl rfl (Nat.le_of_eq rfl) (by decide) (by decide) rfl ?_
        rintro _ _ ⟨rfl, b1, b2, z, hE⟩
        rw [hE]
        show G 5 17 [(a49, .inr ("com/example/lambdaloom/lambdaloom/Route", [("nodes", "[I", .ref b1), ("fibres", "[I", .ref b2), ("hash", "I", .int z)])), (a54, .inl (.int, [.int (0 : Int32), .int (1 : Int32), .int (2 : Int32), .int (3 : Int32)])), (a73, .inl (.int, [.int (0 : Int32), .int (1 : Int32), .int (2 : Int32)])), (b1, .inl (.int, [.int (0 : Int32), .int (1 : Int32), .int (2 : Int32), .int (3 : Int32)])), (b2, .inl (.int, [.int (0 : Int32), .int (1 : Int32), .int (2 : Int32)]))] 90 [.val (.int p0), .val (.int p1), .val (.int p2), .val (.int p3), .val (.int p4), .val (.int w0), .val (.int w1), .val (.int w2), .val (.int (2 : Int32)), .unset, .unset, .unset, .unset] [.ref a49]
        refine C.astore (q := 92) (ls' := [.val (.int p0), .val (.int p1), .val (.int p2), .val (.int p3), .val (.int p4), .val (.int w0), .val (.int w1), .val (.int w2), .val (.int (2 : Int32)), .val (.ref a49), .unset, .unset, .unset]) at_90 rfl rfl rfl ?_
        refine C.iconst (q := 93) (z := (3 : Int32)) at_92 rfl rfl ?_
        refine C.newarr (q := 95) 3 (ty := .int) (vs := [.int (0 : Int32), .int (0 : Int32), .int (0 : Int32)]) (k' := 6) (n' := 20) at_93 (hw _ (List.mem_of_getElem? (i := 4) rfl)) (by decide) (by decide) (by decide) (by decide) (by decide) rfl rfl rfl rfl rfl (fun a93 => ?_)
        show G 6 20 [(a49, .inr ("com/example/lambdaloom/lambdaloom/Route", [("nodes", "[I", .ref b1), ("fibres", "[I", .ref b2), ("hash", "I", .int z)])), (a54, .inl (.int, [.int (0 : Int32), .int (1 : Int32), .int (2 : Int32), .int (3 : Int32)])), (a73, .inl (.int, [.int (0 : Int32), .int (1 : Int32), .int (2 : Int32)])), (b1, .inl (.int, [.int (0 : Int32), .int (1 : Int32), .int (2 : Int32), .int (3 : Int32)])), (b2, .inl (.int, [.int (0 : Int32), .int (1 : Int32), .int (2 : Int32)])), (a93, .inl (.int, [.int (0 : Int32), .int (0 : Int32), .int (0 : Int32)]))] 95 [.val (.int p0), .val (.int p1), .val (.int p2), .val (.int p3), .val (.int p4), .val (.int w0), .val (.int w1), .val (.int w2), .val (.int (2 : Int32)), .val (.ref a49), .unset, .unset, .unset] [.ref a93]
        refine C.dup (q := 96) at_95 rfl rfl ?_
        refine C.iconst (q := 97) (z := (0 : Int32)) at_96 rfl rfl ?_
        refine C.iload (q := 99) at_97 rfl rfl ?_
        refine C.iastore (q := 100) 5 (H' := [(a49, .inr ("com/example/lambdaloom/lambdaloom/Route", [("nodes", "[I", .ref b1), ("fibres", "[I", .ref b2), ("hash", "I", .int z)])), (a54, .inl (.int, [.int (0 : Int32), .int (1 : Int32), .int (2 : Int32), .int (3 : Int32)])), (a73, .inl (.int, [.int (0 : Int32), .int (1 : Int32), .int (2 : Int32)])), (b1, .inl (.int, [.int (0 : Int32), .int (1 : Int32), .int (2 : Int32), .int (3 : Int32)])), (b2, .inl (.int, [.int (0 : Int32), .int (1 : Int32), .int (2 : Int32)])), (a93, .inl (.int, [.int w0, .int (0 : Int32), .int (0 : Int32)]))]) at_99 rfl (by decide) (by show _ < 3; decide) rfl rfl ?_
        refine C.dup (q := 101) at_100 rfl rfl ?_
        refine C.iconst (q := 102) (z := (1 : Int32)) at_101 rfl rfl ?_
        refine C.iload (q := 104) at_102 rfl rfl ?_
        refine C.iastore (q := 105) 5 (H' := [(a49, .inr ("com/example/lambdaloom/lambdaloom/Route", [("nodes", "[I", .ref b1), ("fibres", "[I", .ref b2), ("hash", "I", .int z)])), (a54, .inl (.int, [.int (0 : Int32), .int (1 : Int32), .int (2 : Int32), .int (3 : Int32)])), (a73, .inl (.int, [.int (0 : Int32), .int (1 : Int32), .int (2 : Int32)])), (b1, .inl (.int, [.int (0 : Int32), .int (1 : Int32), .int (2 : Int32), .int (3 : Int32)])), (b2, .inl (.int, [.int (0 : Int32), .int (1 : Int32), .int (2 : Int32)])), (a93, .inl (.int, [.int w0, .int w1, .int (0 : Int32)]))]) at_104 rfl (by decide) (by show _ < 3; decide) rfl rfl ?_
        refine C.dup (q := 106) at_105 rfl rfl ?_
        refine C.iconst (q := 107) (z := (2 : Int32)) at_106 rfl rfl ?_
        refine C.iload (q := 109) at_107 rfl rfl ?_
        refine C.iastore (q := 110) 5 (H' := [(a49, .inr ("com/example/lambdaloom/lambdaloom/Route", [("nodes", "[I", .ref b1), ("fibres", "[I", .ref b2), ("hash", "I", .int z)])), (a54, .inl (.int, [.int (0 : Int32), .int (1 : Int32), .int (2 : Int32), .int (3 : Int32)])), (a73, .inl (.int, [.int (0 : Int32), .int (1 : Int32), .int (2 : Int32)])), (b1, .inl (.int, [.int (0 : Int32), .int (1 : Int32), .int (2 : Int32), .int (3 : Int32)])), (b2, .inl (.int, [.int (0 : Int32), .int (1 : Int32), .int (2 : Int32)])), (a93, .inl (.int, [.int w0, .int w1, .int w2]))]) at_109 rfl (by decide) (by show _ < 3; decide) rfl rfl ?_
        refine C.astore (q := 112) (ls' := [.val (.int p0), .val (.int p1), .val (.int p2), .val (.int p3), .val (.int p4), .val (.int w0), .val (.int w1), .val (.int w2), .val (.int (2 : Int32)), .val (.ref a49), .val (.ref a93), .unset, .unset]) at_110 rfl rfl rfl ?_
        refine C.newobj (q := 115) [("route", "Lcom/example/lambdaloom/lambdaloom/Route;", (.object "com/example/lambdaloom/lambdaloom/Route")), ("wavelengths", "[I", (.array .int)), ("hash", "I", .int)] (fs := [("route", "Lcom/example/lambdaloom/lambdaloom/Route;", .null), ("wavelengths", "[I", .null), ("hash", "I", .int (0 : Int32))]) (k' := 7) (n' := 23) at_112 (hw _ (List.mem_of_getElem? (i := 38) rfl)) (hw _ (List.mem_of_getElem? (i := 39) rfl)) (hw _ (List.mem_of_getElem? (i := 40) rfl)) ⟨⟨Or.inr (hw _ (List.mem_of_getElem? (i := 51) rfl)), by decide⟩, ⟨⟨Or.inr (hw _ (List.mem_of_getElem? (i := 55) rfl)), by decide⟩, ⟨⟨Or.inr (hw _ (List.mem_of_getElem? (i := 63) rfl)), by decide⟩, trivial⟩⟩⟩ (by decide) (by decide) (by decide) rfl rfl rfl rfl (fun a112 => ?_)
        show G 7 23 [(a49, .inr ("com/example/lambdaloom/lambdaloom/Route", [("nodes", "[I", .ref b1), ("fibres", "[I", .ref b2), ("hash", "I", .int z)])), (a54, .inl (.int, [.int (0 : Int32), .int (1 : Int32), .int (2 : Int32), .int (3 : Int32)])), (a73, .inl (.int, [.int (0 : Int32), .int (1 : Int32), .int (2 : Int32)])), (b1, .inl (.int, [.int (0 : Int32), .int (1 : Int32), .int (2 : Int32), .int (3 : Int32)])), (b2, .inl (.int, [.int (0 : Int32), .int (1 : Int32), .int (2 : Int32)])), (a93, .inl (.int, [.int w0, .int w1, .int w2])), (a112, .inr ("com/example/lambdaloom/lambdaloom/Lightpath", [("route", "Lcom/example/lambdaloom/lambdaloom/Route;", .null), ("wavelengths", "[I", .null), ("hash", "I", .int (0 : Int32))]))] 115 [.val (.int p0), .val (.int p1), .val (.int p2), .val (.int p3), .val (.int p4), .val (.int w0), .val (.int w1), .val (.int w2), .val (.int (2 : Int32)), .val (.ref a49), .val (.ref a93), .unset, .unset] [.ref a112]
        refine C.dup (q := 116) at_115 rfl rfl ?_
        refine C.aload (q := 118) at_116 rfl rfl rfl ?_
        refine C.aload (q := 120) at_118 rfl rfl rfl ?_
        refine C.callI (q := 123) 1 a112 [.ref a49, .ref a93] [.ref a112] at_120 (hw _ (List.mem_of_getElem? (i := 41) rfl)) (hw _ (List.mem_of_getElem? (i := 42) rfl)) (hw _ (List.mem_of_getElem? (i := 40) rfl)) (hw _ (List.mem_of_getElem? (i := 43) rfl)) (own_cl l Z a0 n0 hw [] a112 a49 a54 a73 b1 b2 a93 z (0 : Int32) (1 : Int32) (2 : Int32) (3 : Int32) (0 : Int32) (1 : Int32) (2 : Int32) w0 w1 w2 q0 q1 q2) rfl (by decide) (by decide) (by decide) own_pd5 rfl rfl rfl (Nat.le_of_eq rfl) (by decide) (by decide) rfl ?_
        rintro _ _ ⟨rfl, b, y, hE⟩
        rw [hE]
        show G 8 26 [(a49, .inr ("com/example/lambdaloom/lambdaloom/Route", [("nodes", "[I", .ref b1), ("fibres", "[I", .ref b2), ("hash", "I", .int z)])), (a54, .inl (.int, [.int (0 : Int32), .int (1 : Int32), .int (2 : Int32), .int (3 : Int32)])), (a73, .inl (.int, [.int (0 : Int32), .int (1 : Int32), .int (2 : Int32)])), (b1, .inl (.int, [.int (0 : Int32), .int (1 : Int32), .int (2 : Int32), .int (3 : Int32)])), (b2, .inl (.int, [.int (0 : Int32), .int (1 : Int32), .int (2 : Int32)])), (a93, .inl (.int, [.int w0, .int w1, .int w2])), (a112, .inr ("com/example/lambdaloom/lambdaloom/Lightpath", [("route", "Lcom/example/lambdaloom/lambdaloom/Route;", .ref a49), ("wavelengths", "[I", .ref b), ("hash", "I", .int y)])), (b, .inl (.int, [.int w0, .int w1, .int w2]))] 123 [.val (.int p0), .val (.int p1), .val (.int p2), .val (.int p3), .val (.int p4), .val (.int w0), .val (.int w1), .val (.int w2), .val (.int (2 : Int32)), .val (.ref a49), .val (.ref a93), .unset, .unset] [.ref a112]
        refine C.astore (q := 125) (ls' := [.val (.int p0), .val (.int p1), .val (.int p2), .val (.int p3), .val (.int p4), .val (.int w0), .val (.int w1), .val (.int w2), .val (.int (2 : Int32)), .val (.ref a49), .val (.ref a93), .val (.ref a112), .unset]) at_123 rfl rfl rfl ?_
        refine C.iload (q := 127) at_125 rfl rfl ?_
        refine C.ifNe (q := 136) (q' := 130) at_127 (by decide) (by decide) rfl (fun h127 => absurd h127 (by decide)) (fun h127 => ?_)
        refine C.iload (q := 138) at_136 rfl rfl ?_
        refine C.iconst (q := 139) (z := (1 : Int32)) at_138 rfl rfl ?_
        refine C.icmpNe (q := 159) (q' := 142) at_139 (by decide) (by decide) rfl (fun h139 => absurd h139 (by decide)) (fun h139 => ?_)
        refine C.iload (q := 161) at_159 rfl rfl ?_
        refine C.iload (q := 163) at_161 rfl rfl ?_
        refine C.icmpEq (q := 170) (q' := 166) at_163 (by decide) (by decide) rfl (fun h163 => ?_) (fun h163 => ?_)
        · refine C.iconst (q := 171) (z := (0 : Int32)) at_170 rfl rfl ?_
          refine C.istore (q := 173) (ls' := [.val (.int p0), .val (.int p1), .val (.int p2), .val (.int p3), .val (.int p4), .val (.int w0), .val (.int w1), .val (.int w2), .val (.int (2 : Int32)), .val (.ref a49), .val (.ref a93), .val (.ref a112), .val (.int (0 : Int32))]) at_171 rfl rfl ?_
          refine C.aload (q := 175) at_173 rfl rfl rfl ?_
          refine C.iload (q := 177) at_175 rfl rfl ?_
          refine C.callV (q := 180) 0 6 [.int (2 : Int32)] [] at_177 (hw _ (List.mem_of_getElem? (i := 64) rfl)) (hw _ (List.mem_of_getElem? (i := 65) rfl)) (hw _ (List.mem_of_getElem? (i := 66) rfl)) (hw _ (List.mem_of_getElem? (i := 67) rfl)) (hw _ (List.mem_of_getElem? (i := 40) rfl)) (hw _ (List.mem_of_getElem? (i := 68) rfl)) (own_cb2 l Z a0 n0 hw [] a112 a49 a54 a73 b1 b2 a93 b z y (0 : Int32) (1 : Int32) (2 : Int32) (3 : Int32) (0 : Int32) (1 : Int32) (2 : Int32) w0 w1 w2) (by decide) (by decide) (by decide) own_pd6 rfl rfl rfl rfl (Nat.le_of_eq rfl) (by decide) (by decide) rfl ?_
          rintro _ _ ⟨rfl, hE⟩
          rw [hE]
          show G 8 26 [(a49, .inr ("com/example/lambdaloom/lambdaloom/Route", [("nodes", "[I", .ref b1), ("fibres", "[I", .ref b2), ("hash", "I", .int z)])), (a54, .inl (.int, [.int (0 : Int32), .int (1 : Int32), .int (2 : Int32), .int (3 : Int32)])), (a73, .inl (.int, [.int (0 : Int32), .int (1 : Int32), .int (2 : Int32)])), (b1, .inl (.int, [.int (0 : Int32), .int (1 : Int32), .int (2 : Int32), .int (3 : Int32)])), (b2, .inl (.int, [.int (0 : Int32), .int (1 : Int32), .int (2 : Int32)])), (a93, .inl (.int, [.int w0, .int w1, .int w2])), (a112, .inr ("com/example/lambdaloom/lambdaloom/Lightpath", [("route", "Lcom/example/lambdaloom/lambdaloom/Route;", .ref a49), ("wavelengths", "[I", .ref b), ("hash", "I", .int y)])), (b, .inl (.int, [.int w0, .int w1, .int w2]))] 180 [.val (.int p0), .val (.int p1), .val (.int p2), .val (.int p3), .val (.int p4), .val (.int w0), .val (.int w1), .val (.int w2), .val (.int (2 : Int32)), .val (.ref a49), .val (.ref a93), .val (.ref a112), .val (.int (0 : Int32))] [.int (if w2 = w1 then (0 : Int32) else (1 : Int32))]
          refine C.iload (q := 182) at_180 rfl rfl ?_
          refine C.icmpNe (q := 189) (q' := 185) at_182 (by decide) (by decide) rfl (fun h182 => ?_) (fun h182 => absurd (by first | exact own_i0 h146 | exact own_i1 h146 | exact own_i0 h163 | exact own_i1 h163 | rfl) h182)
          refine C.iconst (q := 186) (z := (1 : Int32)) at_185 rfl rfl ?_
          refine C.goto (q := 190) at_186 (by decide) (by decide) ?_
          exact C.retB (by simp) at_190 (by decide) (by decide) rfl
        · refine C.iconst (q := 167) (z := (1 : Int32)) at_166 rfl rfl ?_
          refine C.goto (q := 171) at_167 (by decide) (by decide) ?_
          refine C.istore (q := 173) (ls' := [.val (.int p0), .val (.int p1), .val (.int p2), .val (.int p3), .val (.int p4), .val (.int w0), .val (.int w1), .val (.int w2), .val (.int (2 : Int32)), .val (.ref a49), .val (.ref a93), .val (.ref a112), .val (.int (1 : Int32))]) at_171 rfl rfl ?_
          refine C.aload (q := 175) at_173 rfl rfl rfl ?_
          refine C.iload (q := 177) at_175 rfl rfl ?_
          refine C.callV (q := 180) 0 6 [.int (2 : Int32)] [] at_177 (hw _ (List.mem_of_getElem? (i := 64) rfl)) (hw _ (List.mem_of_getElem? (i := 65) rfl)) (hw _ (List.mem_of_getElem? (i := 66) rfl)) (hw _ (List.mem_of_getElem? (i := 67) rfl)) (hw _ (List.mem_of_getElem? (i := 40) rfl)) (hw _ (List.mem_of_getElem? (i := 68) rfl)) (own_cb2 l Z a0 n0 hw [] a112 a49 a54 a73 b1 b2 a93 b z y (0 : Int32) (1 : Int32) (2 : Int32) (3 : Int32) (0 : Int32) (1 : Int32) (2 : Int32) w0 w1 w2) (by decide) (by decide) (by decide) own_pd6 rfl rfl rfl rfl (Nat.le_of_eq rfl) (by decide) (by decide) rfl ?_
          rintro _ _ ⟨rfl, hE⟩
          rw [hE]
          show G 8 26 [(a49, .inr ("com/example/lambdaloom/lambdaloom/Route", [("nodes", "[I", .ref b1), ("fibres", "[I", .ref b2), ("hash", "I", .int z)])), (a54, .inl (.int, [.int (0 : Int32), .int (1 : Int32), .int (2 : Int32), .int (3 : Int32)])), (a73, .inl (.int, [.int (0 : Int32), .int (1 : Int32), .int (2 : Int32)])), (b1, .inl (.int, [.int (0 : Int32), .int (1 : Int32), .int (2 : Int32), .int (3 : Int32)])), (b2, .inl (.int, [.int (0 : Int32), .int (1 : Int32), .int (2 : Int32)])), (a93, .inl (.int, [.int w0, .int w1, .int w2])), (a112, .inr ("com/example/lambdaloom/lambdaloom/Lightpath", [("route", "Lcom/example/lambdaloom/lambdaloom/Route;", .ref a49), ("wavelengths", "[I", .ref b), ("hash", "I", .int y)])), (b, .inl (.int, [.int w0, .int w1, .int w2]))] 180 [.val (.int p0), .val (.int p1), .val (.int p2), .val (.int p3), .val (.int p4), .val (.int w0), .val (.int w1), .val (.int w2), .val (.int (2 : Int32)), .val (.ref a49), .val (.ref a93), .val (.ref a112), .val (.int (1 : Int32))] [.int (if w2 = w1 then (0 : Int32) else (1 : Int32))]
          refine C.iload (q := 182) at_180 rfl rfl ?_
          refine C.icmpNe (q := 189) (q' := 185) at_182 (by decide) (by decide) rfl (fun h182 => ?_) (fun h182 => absurd (by first | exact own_i0 h146 | exact own_i1 h146 | exact own_i0 h163 | exact own_i1 h163 | rfl) h182)
          refine C.iconst (q := 186) (z := (1 : Int32)) at_185 rfl rfl ?_
          refine C.goto (q := 190) at_186 (by decide) (by decide) ?_
          exact C.retB (by simp) at_190 (by decide) (by decide) rfl
    refine C.ifEq (q := 34) (q' := 29) at_26 (by decide) (by decide) rfl (fun h26 => ?_) (fun h26 => ?_)
    · refine C.iloadN (q := 35) at_34 rfl rfl ?_
      refine C.ldc (q := 37) (v := (2147483647 : Int32)) at_35 (hw _ (List.mem_of_getElem? (i := 0) rfl)) rfl ?_
      refine C.iand (q := 38) at_37 rfl ?_
      exact J26 _ (own_nn0 _)
    · refine C.iload (q := 31) at_29 rfl rfl ?_
      refine C.goto (q := 38) at_31 (by decide) (by decide) ?_
      exact J26 _ (q1)
  refine C.ifEq (q := 17) (q' := 12) at_9 (by decide) (by decide) rfl (fun h9 => ?_) (fun h9 => ?_)
  · refine C.iloadN (q := 18) at_17 rfl rfl ?_
    refine C.ldc (q := 20) (v := (2147483647 : Int32)) at_18 (hw _ (List.mem_of_getElem? (i := 0) rfl)) rfl ?_
    refine C.iand (q := 21) at_20 rfl ?_
    exact J9 _ (own_nn0 _)
  · refine C.iload (q := 14) at_12 rfl rfl ?_
    refine C.goto (q := 21) at_14 (by decide) (by decide) ?_
    exact J9 _ (q0)
set_option maxRecDepth 65536 in
set_option maxHeartbeats 40000000 in
theorem comes_1 {Post : Tables → Env → Array Value → State → Outcome → State → Prop} (hpost : ∀ tb e args s v u, (limb_1_1.after args s (.returned v) u = true ∧ limb_1_2.after args s (.returned v) u = true ∧ True) → FrameEnd s (.returned v) u (Jvm.fieldLocs frame_1_writes args s ++ Jvm.arrayLocs frame_1_arrays args s ++ Jvm.staticLocs frame_1_statics s) 24 128 → Post tb e args s (.returned v) u) :
    ArmFor flags0 classFile x code maxLocals ret World_1 tables_1 room_1 Calls_1 rest_1 Pre_1 Post := by
  intro l hfl _ _ p e ha hc hk s m args below hf hA hF happ hP
  obtain ⟨hcalls, hrest, hpre⟩ := hP
  obtain ⟨-, -, -, hnamed, -, -, -, hat⟩ := (Spec.applies_iff hf).mp happ
  obtain ⟨hg, hn⟩ := and_e (Cond.before_iff.mp (show (Jvm.Cond.and given_1 narrow_1).before args s = true from hpre))
  obtain ⟨hcnt, g0⟩ := and_e hg
  obtain ⟨q0, g1⟩ := and_e g0
  obtain ⟨q1, g2⟩ := and_e g1
  obtain ⟨q2, g3⟩ := and_e g2
  obtain ⟨q3, g4⟩ := and_e g3
  obtain ⟨w0, w1, w2, w3, w4, rfl⟩ : ∃ w0 w1 w2 w3 w4 : Value, args = #[w0, w1, w2, w3, w4] := by
    have hs : args.size = 5 := by simpa [Cond.value, given_1] using hcnt
    obtain ⟨L⟩ := args
    match L, hs with
    | [w0, w1, w2, w3, w4], _ => exact ⟨w0, w1, w2, w3, w4, rfl⟩
  have hw := fun d (hd : d ∈ tables_1) => atoms_spec (ws := Jvm.Cond.code x code maxLocals ret :: tables_1) hat d (List.mem_cons_of_mem _ hd)
  obtain ⟨i0, e0⟩ := is_v q0
  obtain rfl : w0 = (.int i0) := Option.some.inj e0
  obtain ⟨i1, e1⟩ := is_v q1
  obtain rfl : w1 = (.int i1) := Option.some.inj e1
  obtain ⟨i2, e2⟩ := is_v q2
  obtain rfl : w2 = (.int i2) := Option.some.inj e2
  obtain ⟨i3, e3⟩ := is_v q3
  obtain rfl : w3 = (.int i3) := Option.some.inj e3
  obtain ⟨i4, e4⟩ := is_v g4
  obtain rfl : w4 = (.int i4) := Option.some.inj e4
  obtain ⟨n, o, h1, h2, h3, _, L, rfl, ⟨N, H', hH', hv⟩, hq⟩ := own_claw l s _ s.heap.size hw tables_1 i0 i1 i2 i3 i4  s.heap ⟨Nat.le_refl _, fun i j a o o' z => by simp at z, fun i a o z => by simp at z⟩ p e ha hc hk s m _ below hf ((Spec.applies_iff_loose hf).mp happ).1 ⟨rfl, State.Warmed39.refl s, rfl⟩ trivial
  cases hv
  refine ⟨n, _, h1, h2, h3, hpost _ _ _ _ _ _ ⟨Cond.after_iff.mpr rfl, Cond.after_iff.mpr (eq_i res_at (Term.int_eval (1)) rfl), trivial⟩ ⟨hq.1, hq.2.1, (hq.2.2.sift fun y hy => Or.inr (N y hy)).mono (by decide) (by decide)⟩⟩
theorem main_1_1 : Claimed_1_1 := comes_1 fun _ _ _ _ _ _ h hF => ⟨h.1, hF⟩
theorem main_1_2 : Claimed_1_2 := comes_1 fun _ _ _ _ _ _ h hF => ⟨h.2.1, hF⟩
end Jvm.Pilot.@@N@@
namespace Jvm.Pilot.@@N@@
open Jvm Jvm.ClassFile Sem Op Lib Jvm.Free Jvm.Stand Jvm.Pilot.@@N@@.Jvm.D
/-! MADE BY PROGRAM (witnessworld.py) out of the Statement's table words and the real class files: 12 classes; the members and pool entries that the words name. The judged class is class 1, her method 1. -/
namespace start1
open Jvm.ClassFile
def u (s : String) : CpInfo := .utf8 (stringToUtf16 s)
/-- a pool by its gaps: so many unusable entries, then the entry; so many at the end -/
def gap : Nat → List CpInfo → List CpInfo
  | 0, r => r
  | n + 1, r => .unusable :: gap n r
def poolList (es : List (Nat × CpInfo)) (last : Nat) : List CpInfo := es.foldr (fun e r => gap e.1 (e.2 :: r)) (gap last [])
def pool (es : List (Nat × CpInfo)) (last : Nat) : Array CpInfo := ⟨poolList es last⟩
def fileOf (pool : Array CpInfo) (this : Nat) (attrs : Array Attribute := #[]) (ms : Array MethodInfo := #[]) (fl : Nat := 33) (sup : Nat := 0) (ifs : Array Nat := #[]) (fds : Array FieldInfo := #[]) : ClassFile where
  minorVersion := 0
  majorVersion := 65
  constantPool := pool
  accessFlags := fl
  thisClass := this
  superClass := sup
  interfaces := ifs
  fields := fds
  methods := ms
  attributes := attrs
def plain (name : String) (sup : Option ClassId) : Class where
  name := name
  kind := .ordinary
  loader := none
  accessFlags := 33
  super := sup
  interfaces := #[]
  cf := none
  fields := #[]
  methods := #[]
  instanceTypes := #[]
  staticTypes := #[]
  resolved := #[]
  callSites := []
  init := .initialized
  statics := none
  mirror := none

def pool0 : Array CpInfo := pool [(5, u "<init>"), (0, u "()V"), (1, .class_ 10), (1, u "java/lang/Object"), (85, u "clone"), (0, u "()Ljava/lang/Object;")] 26

def k0c0 : Code := { maxStack := 0, maxLocals := 1, code := object_method_1_code, exceptionTable := #[], attributes := #[] }
def k0m0 : Method := { name := "<init>", desc := "()V", sig := { parameters := [], returnType := none }, accessFlags := 1, code := some k0c0 }
def k0m1 : Method := { name := "clone", desc := "()Ljava/lang/Object;", sig := { parameters := [], returnType := some (.object "java/lang/Object") }, accessFlags := 260, code := none }
/-- java/lang/Object -/
def k0 : Class := { plain "java/lang/Object" none with
  accessFlags := 33
  interfaces := #[]
  cf := some (fileOf pool0 8 #[] #[{ accessFlags := 1, nameIndex := 5, descriptorIndex := 6, attributes := #[] }, { accessFlags := 260, nameIndex := 96, descriptorIndex := 97, attributes := #[] }] 33 0 #[] #[])
  fields := #[]
  methods := #[k0m0, k0m1]
  instanceTypes := #[]
  staticTypes := #[]
  resolved := Array.replicate 124 none
  statics := none }

def pool1 : Array CpInfo := pool [(2, .class_ 4), (1, u "java/lang/Object"), (0, u "<init>"), (0, u "()V"), (0, .integer 2147483647), (0, .class_ 9), (0, u "com/example/lambdaloom/lambdaloom/Route"), (0, .methodref 8 11), (0, .nameAndType 5 12), (0, u "([I[I)V"), (0, .class_ 14), (0, u "com/example/lambdaloom/lambdaloom/Lightpath"), (0, .methodref 13 16), (0, .nameAndType 5 17), (0, u "(Lcom/example/lambdaloom/lambdaloom/Route;[I)V"), (0, .methodref 13 19), (0, .nameAndType 20 21), (0, u "convertsBefore"), (0, u "(I)Z"), (0, .class_ 23), (0, u "com/example/lambdaloom/lambdaloom/LightpathConvertsBeforePinLaw"), (2, u "law"), (0, u "(IIIII)Z")] 5

def k1m0 : Method := { name := "<init>", desc := "()V", sig := { parameters := [], returnType := none }, accessFlags := 1, code := none }
def k1c1 : Code := { maxStack := 7, maxLocals := 13, code := code, exceptionTable := #[], attributes := #[] }
def k1m1 : Method := { name := "law", desc := "(IIIII)Z", sig := { parameters := [.int, .int, .int, .int, .int], returnType := some .boolean }, accessFlags := 9, code := some k1c1 }
/-- com/example/lambdaloom/lambdaloom/LightpathConvertsBeforePinLaw -/
def k1 : Class := { plain "com/example/lambdaloom/lambdaloom/LightpathConvertsBeforePinLaw" (some 0) with
  accessFlags := 49
  interfaces := #[]
  cf := some (fileOf pool1 22 #[] #[{ accessFlags := 1, nameIndex := 5, descriptorIndex := 6, attributes := #[] }, { accessFlags := 9, nameIndex := 26, descriptorIndex := 27, attributes := #[] }] 49 2 #[] #[])
  fields := #[]
  methods := #[k1m0, k1m1]
  instanceTypes := #[]
  staticTypes := #[]
  resolved := Array.replicate 33 none
  statics := none }

def pool2 : Array CpInfo := pool [(1, .methodref 2 3), (0, .class_ 4), (0, .nameAndType 5 6), (0, u "java/lang/Object"), (0, u "<init>"), (0, u "()V"), (9, .methodref 17 18), (0, .class_ 19), (0, .nameAndType 20 21), (0, u "[I"), (0, u "clone"), (0, u "()Ljava/lang/Object;"), (0, .fieldref 23 24), (0, .class_ 25), (0, .nameAndType 26 19), (0, u "com/example/lambdaloom/lambdaloom/Route"), (0, u "nodes"), (0, .fieldref 23 28), (0, .nameAndType 29 19), (0, u "fibres"), (0, .methodref 31 32), (0, .class_ 33), (0, .nameAndType 34 35), (0, u "java/util/Arrays"), (0, u "hashCode"), (0, u "([I)I"), (0, .fieldref 23 37), (0, .nameAndType 38 39), (0, u "hash"), (0, u "I"), (4, u "([I[I)V"), (3, u "hops"), (0, u "()I")] 21

def k2c0 : Code := { maxStack := 4, maxLocals := 3, code := prog_24_method_1_code, exceptionTable := #[], attributes := #[] }
def k2m0 : Method := { name := "<init>", desc := "([I[I)V", sig := { parameters := [(.array .int), (.array .int)], returnType := none }, accessFlags := 0, code := some k2c0 }
def k2c1 : Code := { maxStack := 1, maxLocals := 1, code := prog_24_method_2_code, exceptionTable := #[], attributes := #[] }
def k2m1 : Method := { name := "hops", desc := "()I", sig := { parameters := [], returnType := some .int }, accessFlags := 1, code := some k2c1 }
def k2c2 : Code := { maxStack := 1, maxLocals := 1, code := prog_24_method_6_code, exceptionTable := #[], attributes := #[] }
def k2m2 : Method := { name := "hashCode", desc := "()I", sig := { parameters := [], returnType := some .int }, accessFlags := 1, code := some k2c2 }
/-- com/example/lambdaloom/lambdaloom/Route -/
def k2 : Class := { plain "com/example/lambdaloom/lambdaloom/Route" (some 0) with
  accessFlags := 49
  interfaces := #[]
  cf := some (fileOf pool2 23 #[] #[{ accessFlags := 0, nameIndex := 5, descriptorIndex := 44, attributes := #[] }, { accessFlags := 1, nameIndex := 48, descriptorIndex := 49, attributes := #[] }, { accessFlags := 1, nameIndex := 34, descriptorIndex := 49, attributes := #[] }] 49 2 #[] #[{ accessFlags := 18, nameIndex := 26, descriptorIndex := 19, attributes := #[] }, { accessFlags := 18, nameIndex := 29, descriptorIndex := 19, attributes := #[] }, { accessFlags := 18, nameIndex := 38, descriptorIndex := 39, attributes := #[] }])
  fields := #[{ name := "nodes", type := (.array .int), accessFlags := 18, slot := 0, constantValue := 0 }, { name := "fibres", type := (.array .int), accessFlags := 18, slot := 1, constantValue := 0 }, { name := "hash", type := .int, accessFlags := 18, slot := 2, constantValue := 0 }]
  methods := #[k2m0, k2m1, k2m2]
  instanceTypes := #[(.array .int), (.array .int), .int]
  staticTypes := #[]
  resolved := Array.replicate 71 none
  statics := none }

def pool3 : Array CpInfo := pool [(1, .class_ 2), (0, u "java/lang/Cloneable"), (0, .class_ 4), (0, u "java/lang/Object")] 2

/-- java/lang/Cloneable -/
def k3 : Class := { plain "java/lang/Cloneable" (some 0) with
  accessFlags := 1537
  interfaces := #[]
  cf := some (fileOf pool3 1 #[] #[] 1537 3 #[] #[])
  fields := #[]
  methods := #[]
  instanceTypes := #[]
  staticTypes := #[]
  resolved := Array.replicate 7 none
  statics := none }

def pool4 : Array CpInfo := pool [(2, .class_ 4), (1, u "java/lang/Object"), (0, u "<init>"), (0, u "()V"), (7, .class_ 16), (1, u "java/util/Arrays"), (57, .class_ 76), (1, u "java/util/Arrays$NaturalOrder"), (36, .class_ 115), (1, u "java/util/Arrays$LegacyMergeSort"), (1, u "Z"), (128, .class_ 248), (1, u "jdk/internal/util/ArraysSupport"), (126, .class_ 376), (0, u "java/util/Arrays$ArrayList"), (2, .methodref 246 380), (0, .nameAndType 381 382), (0, u "vectorizedHashCode"), (0, u "(Ljava/lang/Object;IIII)I"), (2, u "hashCode"), (22, u "([I)I"), (36, u "$assertionsDisabled"), (269, u "MIN_ARRAY_SORT_GRAN"), (0, u "I"), (2, u "INSERTIONSORT_THRESHOLD"), (255, .class_ 976), (0, u "java/util/Arrays$ArrayItr")] 52

def k4m0 : Method := { name := "<init>", desc := "()V", sig := { parameters := [], returnType := none }, accessFlags := 2, code := none }
def k4c1 : Code := { maxStack := 5, maxLocals := 1, code := jdk_65_method_150_code, exceptionTable := #[], attributes := #[] }
def k4m1 : Method := { name := "hashCode", desc := "([I)I", sig := { parameters := [(.array .int)], returnType := some .int }, accessFlags := 9, code := some k4c1 }
/-- java/util/Arrays -/
def k4 : Class := { plain "java/util/Arrays" (some 0) with
  accessFlags := 49
  interfaces := #[]
  cf := some (fileOf pool4 14 #[.nestMembers #[975, 375, 113, 74]] #[{ accessFlags := 2, nameIndex := 5, descriptorIndex := 6, attributes := #[] }, { accessFlags := 9, nameIndex := 385, descriptorIndex := 408, attributes := #[] }] 49 2 #[] #[{ accessFlags := 26, nameIndex := 715, descriptorIndex := 716, attributes := #[] }, { accessFlags := 26, nameIndex := 719, descriptorIndex := 716, attributes := #[] }, { accessFlags := 4120, nameIndex := 445, descriptorIndex := 117, attributes := #[] }])
  fields := #[{ name := "MIN_ARRAY_SORT_GRAN", type := .int, accessFlags := 26, slot := 0, constantValue := 0 }, { name := "INSERTIONSORT_THRESHOLD", type := .int, accessFlags := 26, slot := 1, constantValue := 0 }, { name := "$assertionsDisabled", type := .boolean, accessFlags := 4120, slot := 2, constantValue := 0 }]
  methods := #[k4m0, k4m1]
  instanceTypes := #[]
  staticTypes := #[.int, .int, .boolean]
  resolved := Array.replicate 1029 none
  statics := none }

def pool5 : Array CpInfo := pool [(9, u "<init>"), (6, .class_ 18), (1, u "java/lang/Object"), (0, u "()V"), (1, .class_ 23), (1, u "jdk/internal/util/ArraysSupport"), (0, u "LOG2_ARRAY_LONG_INDEX_SCALE"), (0, u "I"), (2, u "U"), (0, u "Ljdk/internal/misc/Unsafe;"), (8, u "BIG_ENDIAN"), (0, u "Z"), (8, u "LOG2_BYTE_BIT_SIZE"), (4, u "LOG2_ARRAY_INT_INDEX_SCALE"), (19, u "hashCode"), (8, .class_ 83), (0, u "[I"), (0, .methodref 21 85), (0, .nameAndType 73 86), (0, u "(I[III)I"), (21, u "JLA"), (0, u "Ljdk/internal/access/JavaLangAccess;"), (11, u "LOG2_ARRAY_BOOLEAN_INDEX_SCALE"), (9, u "LOG2_ARRAY_BYTE_INDEX_SCALE"), (5, u "LOG2_ARRAY_CHAR_INDEX_SCALE"), (5, u "LOG2_ARRAY_SHORT_INDEX_SCALE"), (18, u "LOG2_ARRAY_FLOAT_INDEX_SCALE"), (24, u "LOG2_ARRAY_DOUBLE_INDEX_SCALE"), (89, u "T_BOOLEAN"), (2, u "T_CHAR"), (1, u "T_FLOAT"), (1, u "T_DOUBLE"), (1, u "T_BYTE"), (1, u "T_SHORT"), (1, u "T_INT"), (1, u "T_LONG"), (1, u "SOFT_MAX_ARRAY_LENGTH"), (26, u "vectorizedHashCode"), (0, u "(Ljava/lang/Object;IIII)I")] 55

def k5m0 : Method := { name := "<init>", desc := "()V", sig := { parameters := [], returnType := none }, accessFlags := 2, code := none }
def k5c1 : Code := { maxStack := 4, maxLocals := 5, code := jdk_48_method_4_code, exceptionTable := #[], attributes := #[] }
def k5m1 : Method := { name := "vectorizedHashCode", desc := "(Ljava/lang/Object;IIII)I", sig := { parameters := [(.object "java/lang/Object"), .int, .int, .int, .int], returnType := some .int }, accessFlags := 9, code := some k5c1 }
def k5c2 : Code := { maxStack := 3, maxLocals := 6, code := jdk_48_method_9_code, exceptionTable := #[], attributes := #[] }
def k5m2 : Method := { name := "hashCode", desc := "(I[III)I", sig := { parameters := [.int, (.array .int), .int, .int], returnType := some .int }, accessFlags := 10, code := some k5c2 }
/-- jdk/internal/util/ArraysSupport -/
def k5 : Class := { plain "jdk/internal/util/ArraysSupport" (some 0) with
  accessFlags := 33
  interfaces := #[]
  cf := some (fileOf pool5 21 #[] #[{ accessFlags := 2, nameIndex := 9, descriptorIndex := 19, attributes := #[] }, { accessFlags := 9, nameIndex := 321, descriptorIndex := 322, attributes := #[] }, { accessFlags := 10, nameIndex := 73, descriptorIndex := 86, attributes := #[] }] 33 16 #[] #[{ accessFlags := 24, nameIndex := 28, descriptorIndex := 29, attributes := #[] }, { accessFlags := 26, nameIndex := 38, descriptorIndex := 39, attributes := #[] }, { accessFlags := 25, nameIndex := 121, descriptorIndex := 25, attributes := #[] }, { accessFlags := 25, nameIndex := 131, descriptorIndex := 25, attributes := #[] }, { accessFlags := 25, nameIndex := 137, descriptorIndex := 25, attributes := #[] }, { accessFlags := 25, nameIndex := 143, descriptorIndex := 25, attributes := #[] }, { accessFlags := 25, nameIndex := 53, descriptorIndex := 25, attributes := #[] }, { accessFlags := 25, nameIndex := 24, descriptorIndex := 25, attributes := #[] }, { accessFlags := 25, nameIndex := 162, descriptorIndex := 25, attributes := #[] }, { accessFlags := 25, nameIndex := 187, descriptorIndex := 25, attributes := #[] }, { accessFlags := 26, nameIndex := 48, descriptorIndex := 25, attributes := #[] }, { accessFlags := 25, nameIndex := 277, descriptorIndex := 25, attributes := #[] }, { accessFlags := 25, nameIndex := 280, descriptorIndex := 25, attributes := #[] }, { accessFlags := 25, nameIndex := 282, descriptorIndex := 25, attributes := #[] }, { accessFlags := 25, nameIndex := 284, descriptorIndex := 25, attributes := #[] }, { accessFlags := 25, nameIndex := 286, descriptorIndex := 25, attributes := #[] }, { accessFlags := 25, nameIndex := 288, descriptorIndex := 25, attributes := #[] }, { accessFlags := 25, nameIndex := 290, descriptorIndex := 25, attributes := #[] }, { accessFlags := 25, nameIndex := 292, descriptorIndex := 25, attributes := #[] }, { accessFlags := 26, nameIndex := 108, descriptorIndex := 109, attributes := #[] }, { accessFlags := 25, nameIndex := 294, descriptorIndex := 25, attributes := #[] }])
  fields := #[{ name := "U", type := (.object "jdk/internal/misc/Unsafe"), accessFlags := 24, slot := 0, constantValue := 0 }, { name := "BIG_ENDIAN", type := .boolean, accessFlags := 26, slot := 1, constantValue := 0 }, { name := "LOG2_ARRAY_BOOLEAN_INDEX_SCALE", type := .int, accessFlags := 25, slot := 2, constantValue := 0 }, { name := "LOG2_ARRAY_BYTE_INDEX_SCALE", type := .int, accessFlags := 25, slot := 3, constantValue := 0 }, { name := "LOG2_ARRAY_CHAR_INDEX_SCALE", type := .int, accessFlags := 25, slot := 4, constantValue := 0 }, { name := "LOG2_ARRAY_SHORT_INDEX_SCALE", type := .int, accessFlags := 25, slot := 5, constantValue := 0 }, { name := "LOG2_ARRAY_INT_INDEX_SCALE", type := .int, accessFlags := 25, slot := 6, constantValue := 0 }, { name := "LOG2_ARRAY_LONG_INDEX_SCALE", type := .int, accessFlags := 25, slot := 7, constantValue := 0 }, { name := "LOG2_ARRAY_FLOAT_INDEX_SCALE", type := .int, accessFlags := 25, slot := 8, constantValue := 0 }, { name := "LOG2_ARRAY_DOUBLE_INDEX_SCALE", type := .int, accessFlags := 25, slot := 9, constantValue := 0 }, { name := "LOG2_BYTE_BIT_SIZE", type := .int, accessFlags := 26, slot := 10, constantValue := 0 }, { name := "T_BOOLEAN", type := .int, accessFlags := 25, slot := 11, constantValue := 0 }, { name := "T_CHAR", type := .int, accessFlags := 25, slot := 12, constantValue := 0 }, { name := "T_FLOAT", type := .int, accessFlags := 25, slot := 13, constantValue := 0 }, { name := "T_DOUBLE", type := .int, accessFlags := 25, slot := 14, constantValue := 0 }, { name := "T_BYTE", type := .int, accessFlags := 25, slot := 15, constantValue := 0 }, { name := "T_SHORT", type := .int, accessFlags := 25, slot := 16, constantValue := 0 }, { name := "T_INT", type := .int, accessFlags := 25, slot := 17, constantValue := 0 }, { name := "T_LONG", type := .int, accessFlags := 25, slot := 18, constantValue := 0 }, { name := "JLA", type := (.object "jdk/internal/access/JavaLangAccess"), accessFlags := 26, slot := 19, constantValue := 0 }, { name := "SOFT_MAX_ARRAY_LENGTH", type := .int, accessFlags := 25, slot := 20, constantValue := 0 }]
  methods := #[k5m0, k5m1, k5m2]
  instanceTypes := #[]
  staticTypes := #[(.object "jdk/internal/misc/Unsafe"), .boolean, .int, .int, .int, .int, .int, .int, .int, .int, .int, .int, .int, .int, .int, .int, .int, .int, .int, (.object "jdk/internal/access/JavaLangAccess"), .int]
  resolved := Array.replicate 378 none
  statics := none }

def pool6 : Array CpInfo := pool [(1, .methodref 2 3), (0, .class_ 4), (0, .nameAndType 5 6), (0, u "java/lang/Object"), (0, u "<init>"), (0, u "()V"), (0, .methodref 8 9), (0, .class_ 10), (0, .nameAndType 11 12), (0, u "com/example/lambdaloom/lambdaloom/Route"), (0, u "hops"), (0, u "()I"), (12, .fieldref 26 27), (0, .class_ 28), (0, .nameAndType 29 30), (0, u "com/example/lambdaloom/lambdaloom/Lightpath"), (0, u "route"), (0, u "Lcom/example/lambdaloom/lambdaloom/Route;"), (0, .methodref 32 33), (0, .class_ 34), (0, .nameAndType 35 36), (0, u "[I"), (0, u "clone"), (0, u "()Ljava/lang/Object;"), (0, .fieldref 26 38), (0, .nameAndType 39 34), (0, u "wavelengths"), (0, .methodref 8 41), (0, .nameAndType 42 12), (0, u "hashCode"), (0, .methodref 44 45), (0, .class_ 46), (0, .nameAndType 42 47), (0, u "java/util/Arrays"), (0, u "([I)I"), (0, .fieldref 26 49), (0, .nameAndType 50 51), (0, u "hash"), (0, u "I"), (2, u "convertsBefore"), (0, u "(I)Z"), (14, u "(Lcom/example/lambdaloom/lambdaloom/Route;[I)V")] 26

def k6c0 : Code := { maxStack := 4, maxLocals := 7, code := prog_17_method_1_code, exceptionTable := #[], attributes := #[] }
def k6m0 : Method := { name := "<init>", desc := "(Lcom/example/lambdaloom/lambdaloom/Route;[I)V", sig := { parameters := [(.object "com/example/lambdaloom/lambdaloom/Route"), (.array .int)], returnType := none }, accessFlags := 1, code := some k6c0 }
def k6c1 : Code := { maxStack := 4, maxLocals := 2, code := prog_17_method_4_code, exceptionTable := #[], attributes := #[] }
def k6m1 : Method := { name := "convertsBefore", desc := "(I)Z", sig := { parameters := [.int], returnType := some .boolean }, accessFlags := 1, code := some k6c1 }
/-- com/example/lambdaloom/lambdaloom/Lightpath -/
def k6 : Class := { plain "com/example/lambdaloom/lambdaloom/Lightpath" (some 0) with
  accessFlags := 49
  interfaces := #[]
  cf := some (fileOf pool6 26 #[] #[{ accessFlags := 1, nameIndex := 5, descriptorIndex := 70, attributes := #[] }, { accessFlags := 1, nameIndex := 54, descriptorIndex := 55, attributes := #[] }] 49 2 #[] #[{ accessFlags := 18, nameIndex := 29, descriptorIndex := 30, attributes := #[] }, { accessFlags := 18, nameIndex := 39, descriptorIndex := 34, attributes := #[] }, { accessFlags := 18, nameIndex := 50, descriptorIndex := 51, attributes := #[] }])
  fields := #[{ name := "route", type := (.object "com/example/lambdaloom/lambdaloom/Route"), accessFlags := 18, slot := 0, constantValue := 0 }, { name := "wavelengths", type := (.array .int), accessFlags := 18, slot := 1, constantValue := 0 }, { name := "hash", type := .int, accessFlags := 18, slot := 2, constantValue := 0 }]
  methods := #[k6m0, k6m1]
  instanceTypes := #[(.object "com/example/lambdaloom/lambdaloom/Route"), (.array .int), .int]
  staticTypes := #[]
  resolved := Array.replicate 97 none
  statics := none }

def pool7 : Array CpInfo := pool [(1, u "java/io/Serializable"), (0, .class_ 1), (0, u "java/lang/Object"), (0, .class_ 3)] 3

/-- java/io/Serializable -/
def k7 : Class := { plain "java/io/Serializable" (some 0) with
  accessFlags := 1537
  interfaces := #[]
  cf := some (fileOf pool7 2 #[] #[] 1537 4 #[] #[])
  fields := #[]
  methods := #[]
  instanceTypes := #[]
  staticTypes := #[]
  resolved := Array.replicate 8 none
  statics := none }

/-- the primitive byte -/
def k8 : Class := { plain "byte" none with kind := .primitive 'B', accessFlags := 0x411 }
/-- [B -/
def k9 : Class := { plain "[B" (some 0) with kind := .array 8 .byte, interfaces := #[3, 7], accessFlags := 1041 }

/-- the primitive int -/
def k10 : Class := { plain "int" none with kind := .primitive 'I', accessFlags := 0x411 }
/-- [I -/
def k11 : Class := { plain "[I" (some 0) with kind := .array 10 .int, interfaces := #[3, 7], accessFlags := 1041 }

def heap : Heap := #[]
def classes : Array Class := #[k0, k1, k2, k3, k4, k5, k6, k7, k8, k9, k10, k11]
def interned : List (Array UInt16 × Addr) := []
def slotsUsed : Nat := 0
def theMethod : MethodId := ⟨1, 1⟩
def args0 : Array Value := #[.int 5, .int 7, .int 1, .int 2, .int 3]
def aboutOver (below : List Frame) : State where
  vm := { classes := classes, interned := interned.toArray }
  heap := heap
  slotsUsed := slotsUsed
  threads := #[{ frames := .invoking theMethod args0 :: below }]
def below0 : List Frame := [.native { method := ⟨0, 0⟩, args := #[] }]
def about1 : State := aboutOver below0
def p0 : Program := .bare "" "" ""
def e0 : Env := launch0.env 0 0 0
theorem w_frames : about1.frames = Frame.invoking theMethod args0 :: below0 := rfl
set_option maxRecDepth 65536 in
theorem w_args : argsFit about1.vm theMethod args0 = true := by decide +kernel
set_option maxRecDepth 65536 in
theorem w_heap : heapFits about1 = true := by decide +kernel
set_option maxRecDepth 65536 in
theorem w_runnable : about1.curStatus? = some .runnable := by decide +kernel
set_option maxRecDepth 65536 in
theorem w_alone : about1.alone = true := by decide +kernel
set_option maxRecDepth 65536 in
theorem w_named : about1.methodNamed? x = some theMethod := by decide +kernel
set_option maxRecDepth 65536 in
theorem w_hears : about1.hears theMethod below0 = true := by decide +kernel
set_option maxRecDepth 65536 in
theorem w_ripe : about1.ripe theMethod args0 below0 = true := by decide +kernel
theorem w_running : about1.status = .running := rfl
set_option maxRecDepth 65536 in
theorem w_room : about1.hasRoom e0.platform room_1 = true :=
  launch0.hasRoom_least _ room_1 (by decide +kernel) (by decide +kernel) (by decide +kernel) (by decide +kernel) (by decide +kernel) (by decide +kernel)
theorem allAtoms_all (ts : List Jvm.Cond) (a : Array Jvm.Value) (st : Jvm.State) : (allAtoms ts).before a st = ts.all (fun c => c.before a st) := by
  induction ts with
  | nil => rfl
  | cons c t ih =>
    show (Jvm.Cond.and c (allAtoms t)).before a st = _
    rw [Jvm.Cond.before_and, ih, List.all_cons]
def words1 : List Jvm.Cond := Jvm.Cond.code x code maxLocals ret :: tables_1
/-- a 'code' word, met by the world's own term for the bytes: nothing is compared byte by byte -/
theorem code_word {y : MethodName} {bytes : ByteArray} {mx : Nat} {rt : Option FieldType} {a : Array Value} {s : State} {m : MethodId} {meth : Method} {c : Code} (h1 : s.methodNamed? y = some m) (h2 : s.vm.method? m = some meth) (h3 : meth.code = some c) (h4 : c.code = bytes)
    (h5 : (c.maxLocals == mx && c.exceptionTable.isEmpty && decide (c.maxStack ≤ mostOperands) && decide (meth.sig.returnType = rt) && !meth.locks && decide (parseMethodDescriptor y.desc = some meth.sig)) = true) : (Jvm.Cond.code y bytes mx rt).before a s = true := by
  simp only [Bool.and_eq_true, beq_iff_eq, Bool.not_eq_true', decide_eq_true_eq] at h5
  obtain ⟨⟨⟨⟨⟨g1, g2⟩, g3⟩, g4⟩, g5⟩, g6⟩ := h5
  simp [Cond.before, Cond.holds, Cond.value, h1, h2, h3, h4, g1, g2, g3, g4, g5, g6]
def isCode : Jvm.Cond → Bool
  | .code _ _ _ _ => true
  | _ => false
theorem all_split {L : List Jvm.Cond} {P : Jvm.Cond → Bool} (h1 : L.all (fun c => isCode c || P c) = true) (h2 : ∀ c ∈ L.filter isCode, P c = true) : L.all P = true := by
  refine List.all_eq_true.mpr fun c hc => ?_
  have h := List.all_eq_true.mp h1 c hc
  rcases Bool.eq_false_or_eq_true (isCode c) with hi | hi
  · exact h2 c (List.mem_filter.mpr ⟨hc, hi⟩)
  · simpa [hi] using h
set_option maxRecDepth 65536 in
theorem w_c0 : (Jvm.Cond.code x code maxLocals ret).before args0 about1 = true := code_word (m := ⟨1, 1⟩) (meth := k1m1) (c := k1c1) (by decide +kernel) rfl rfl rfl (by decide +kernel)
set_option maxRecDepth 65536 in
theorem w_c1 : (Jvm.Cond.code ({ cls := "com/example/lambdaloom/lambdaloom/Route", name := "<init>", desc := "([I[I)V" } : Jvm.MethodName) prog_24_method_1_code (3 : Nat) (Option.none : Option Jvm.ClassFile.FieldType)).before args0 about1 = true := code_word (m := ⟨2, 0⟩) (meth := k2m0) (c := k2c0) (by decide +kernel) rfl rfl rfl (by decide +kernel)
set_option maxRecDepth 65536 in
theorem w_c2 : (Jvm.Cond.code ({ cls := "java/lang/Object", name := "<init>", desc := "()V" } : Jvm.MethodName) object_method_1_code (1 : Nat) (Option.none : Option Jvm.ClassFile.FieldType)).before args0 about1 = true := code_word (m := ⟨0, 0⟩) (meth := k0m0) (c := k0c0) (by decide +kernel) rfl rfl rfl (by decide +kernel)
set_option maxRecDepth 65536 in
theorem w_c3 : (Jvm.Cond.code ({ cls := "java/util/Arrays", name := "hashCode", desc := "([I)I" } : Jvm.MethodName) jdk_65_method_150_code (1 : Nat) (Option.some Jvm.ClassFile.FieldType.int)).before args0 about1 = true := code_word (m := ⟨4, 1⟩) (meth := k4m1) (c := k4c1) (by decide +kernel) rfl rfl rfl (by decide +kernel)
set_option maxRecDepth 65536 in
theorem w_c4 : (Jvm.Cond.code ({ cls := "jdk/internal/util/ArraysSupport", name := "vectorizedHashCode", desc := "(Ljava/lang/Object;IIII)I" } : Jvm.MethodName) jdk_48_method_4_code (5 : Nat) (Option.some Jvm.ClassFile.FieldType.int)).before args0 about1 = true := code_word (m := ⟨5, 1⟩) (meth := k5m1) (c := k5c1) (by decide +kernel) rfl rfl rfl (by decide +kernel)
set_option maxRecDepth 65536 in
theorem w_c5 : (Jvm.Cond.code ({ cls := "jdk/internal/util/ArraysSupport", name := "hashCode", desc := "(I[III)I" } : Jvm.MethodName) jdk_48_method_9_code (6 : Nat) (Option.some Jvm.ClassFile.FieldType.int)).before args0 about1 = true := code_word (m := ⟨5, 2⟩) (meth := k5m2) (c := k5c2) (by decide +kernel) rfl rfl rfl (by decide +kernel)
set_option maxRecDepth 65536 in
theorem w_c6 : (Jvm.Cond.code ({ cls := "com/example/lambdaloom/lambdaloom/Lightpath", name := "<init>", desc := "(Lcom/example/lambdaloom/lambdaloom/Route;[I)V" } : Jvm.MethodName) prog_17_method_1_code (7 : Nat) (Option.none : Option Jvm.ClassFile.FieldType)).before args0 about1 = true := code_word (m := ⟨6, 0⟩) (meth := k6m0) (c := k6c0) (by decide +kernel) rfl rfl rfl (by decide +kernel)
set_option maxRecDepth 65536 in
theorem w_c7 : (Jvm.Cond.code ({ cls := "com/example/lambdaloom/lambdaloom/Route", name := "hops", desc := "()I" } : Jvm.MethodName) prog_24_method_2_code (1 : Nat) (Option.some Jvm.ClassFile.FieldType.int)).before args0 about1 = true := code_word (m := ⟨2, 1⟩) (meth := k2m1) (c := k2c1) (by decide +kernel) rfl rfl rfl (by decide +kernel)
set_option maxRecDepth 65536 in
theorem w_c8 : (Jvm.Cond.code ({ cls := "com/example/lambdaloom/lambdaloom/Route", name := "hashCode", desc := "()I" } : Jvm.MethodName) prog_24_method_6_code (1 : Nat) (Option.some Jvm.ClassFile.FieldType.int)).before args0 about1 = true := code_word (m := ⟨2, 2⟩) (meth := k2m2) (c := k2c2) (by decide +kernel) rfl rfl rfl (by decide +kernel)
set_option maxRecDepth 65536 in
theorem w_c9 : (Jvm.Cond.code ({ cls := "com/example/lambdaloom/lambdaloom/Lightpath", name := "convertsBefore", desc := "(I)Z" } : Jvm.MethodName) prog_17_method_4_code (2 : Nat) (Option.some Jvm.ClassFile.FieldType.boolean)).before args0 about1 = true := code_word (m := ⟨6, 1⟩) (meth := k6m1) (c := k6c1) (by decide +kernel) rfl rfl rfl (by decide +kernel)
def codes1 : List Jvm.Cond := [Jvm.Cond.code x code maxLocals ret, Jvm.Cond.code ({ cls := "com/example/lambdaloom/lambdaloom/Route", name := "<init>", desc := "([I[I)V" } : Jvm.MethodName) prog_24_method_1_code (3 : Nat) (Option.none : Option Jvm.ClassFile.FieldType), Jvm.Cond.code ({ cls := "java/lang/Object", name := "<init>", desc := "()V" } : Jvm.MethodName) object_method_1_code (1 : Nat) (Option.none : Option Jvm.ClassFile.FieldType), Jvm.Cond.code ({ cls := "java/util/Arrays", name := "hashCode", desc := "([I)I" } : Jvm.MethodName) jdk_65_method_150_code (1 : Nat) (Option.some Jvm.ClassFile.FieldType.int), Jvm.Cond.code ({ cls := "jdk/internal/util/ArraysSupport", name := "vectorizedHashCode", desc := "(Ljava/lang/Object;IIII)I" } : Jvm.MethodName) jdk_48_method_4_code (5 : Nat) (Option.some Jvm.ClassFile.FieldType.int), Jvm.Cond.code ({ cls := "jdk/internal/util/ArraysSupport", name := "hashCode", desc := "(I[III)I" } : Jvm.MethodName) jdk_48_method_9_code (6 : Nat) (Option.some Jvm.ClassFile.FieldType.int), Jvm.Cond.code ({ cls := "com/example/lambdaloom/lambdaloom/Lightpath", name := "<init>", desc := "(Lcom/example/lambdaloom/lambdaloom/Route;[I)V" } : Jvm.MethodName) prog_17_method_1_code (7 : Nat) (Option.none : Option Jvm.ClassFile.FieldType), Jvm.Cond.code ({ cls := "com/example/lambdaloom/lambdaloom/Route", name := "hops", desc := "()I" } : Jvm.MethodName) prog_24_method_2_code (1 : Nat) (Option.some Jvm.ClassFile.FieldType.int), Jvm.Cond.code ({ cls := "com/example/lambdaloom/lambdaloom/Route", name := "hashCode", desc := "()I" } : Jvm.MethodName) prog_24_method_6_code (1 : Nat) (Option.some Jvm.ClassFile.FieldType.int), Jvm.Cond.code ({ cls := "com/example/lambdaloom/lambdaloom/Lightpath", name := "convertsBefore", desc := "(I)Z" } : Jvm.MethodName) prog_17_method_4_code (2 : Nat) (Option.some Jvm.ClassFile.FieldType.boolean)]
set_option maxRecDepth 65536 in
theorem codes_eq : words1.filter isCode = codes1 := rfl
theorem w_codes : ∀ c ∈ words1.filter isCode, c.before args0 about1 = true := by
  rw [codes_eq]
  intro c hc
  simp only [codes1, List.mem_cons, List.not_mem_nil, or_false] at hc
  rcases hc with rfl | rfl | rfl | rfl | rfl | rfl | rfl | rfl | rfl | rfl
  · exact w_c0
  · exact w_c1
  · exact w_c2
  · exact w_c3
  · exact w_c4
  · exact w_c5
  · exact w_c6
  · exact w_c7
  · exact w_c8
  · exact w_c9
set_option maxRecDepth 65536 in
theorem w_t1 : (words1.take 24).all (fun c => isCode c || c.before args0 about1) = true := by decide +kernel
set_option maxRecDepth 65536 in
theorem w_t2 : ((words1.drop 24).take 24).all (fun c => isCode c || c.before args0 about1) = true := by decide +kernel
set_option maxRecDepth 65536 in
theorem w_t3 : ((words1.drop 24).drop 24).all (fun c => isCode c || c.before args0 about1) = true := by decide +kernel
theorem w_tables : (allAtoms (Jvm.Cond.code x code maxLocals ret :: tables_1)).before args0 about1 = true := by
  rw [allAtoms_all]
  show words1.all (fun c => c.before args0 about1) = true
  refine all_split ?_ w_codes
  rw [← List.take_append_drop 24 words1, List.all_append, w_t1, ← List.take_append_drop 24 (words1.drop 24), List.all_append, w_t2, w_t3]
  rfl
set_option maxRecDepth 65536 in
theorem w_case : (Jvm.Cond.and given_1 narrow_1).before args0 about1 = true := by decide +kernel
theorem w_applies : (headSpec (Jvm.Cond.code x code maxLocals ret :: tables_1) room_1).applies x e0.platform about1 = true :=
  (Spec.applies_iff w_frames).mpr ⟨w_running, w_runnable, w_alone, w_named, w_hears, w_ripe, w_room, w_tables⟩
theorem atStart : AtStart classFile x code maxLocals ret World_1 tables_1 room_1 Calls_1 rest_1 Pre_1 launch0 p0 e0 about1 theMethod args0 below0 :=
  ⟨lists_1, trivial, launch0.admits_env _ _ _, launch0.least_env, fairChoices_fair.cas, fairChoices_fair.clock, w_frames, w_args, w_heap, w_applies, trivial, trivial, w_case⟩
end start1
theorem witness_1 : WitnessClaimed_1 := ⟨start1.p0, start1.e0, start1.about1, start1.theMethod, start1.args0, start1.below0, start1.atStart⟩
end Jvm.Pilot.@@N@@
