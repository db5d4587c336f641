import JvmDerived
import JvmDerived.Pilot.@@N@@Statement
import JvmDerived.Pilot.@@N@@Code
set_option linter.unusedVariables false
set_option linter.unusedSimpArgs false
namespace Jvm.Pilot.@@N@@
open Jvm Jvm.ClassFile Sem Op Lib Jvm.Free Jvm.Stand Jvm.LawKit Jvm.RoadKit Bundle Jvm.Pilot.@@N@@.Jvm.D
-- OWN KIT: a walk over an abstract heap. 'own_Ob': an array (kind, values) or an object (class, fields).
abbrev own_Ob : Type := (FieldType × List Value) ⊕ (String × List (String × String × Value))
abbrev own_Hs : Type := List (Addr × own_Ob)
def own_is (Z : State) (h : Heap) (a : Addr) : own_Ob → Prop
  | .inl q => ∃ c : Cell, Arr Z h a c q.1 ∧ c.slots.toList = q.2 ∧ (q.1 = .int → Z.vm.findClass "[I" = some c.cls)
  | .inr q => Exa Z h a q.1 ∧ (∀ (i j : Nat) (f g : String × String × Value), q.2[i]? = some f → q.2[j]? = some g → RoadKit.slotOf Z q.1 f.1 f.2.1 = RoadKit.slotOf Z q.1 g.1 g.2.1 → i = j) ∧ ∀ (i : Nat) (f : String × String × Value), q.2[i]? = some f → Fld Z h a q.1 f.1 f.2.1 f.2.2
/-- the objects made since the law began, each at its own address -/
def own_Hp (Z : State) (n0 : Nat) (h : Heap) (H : own_Hs) : Prop :=
  n0 ≤ h.size ∧ (∀ (i j : Nat) (a : Addr) (o o' : own_Ob), H[i]? = some (a, o) → H[j]? = some (a, o') → i = j) ∧ ∀ (i : Nat) (a : Addr) (o : own_Ob), H[i]? = some (a, o) → n0 ≤ a ∧ a < h.size ∧ own_is Z h a o
/-- what is owed at the end -/
def own_P (Z : State) (n0 : Nat) (s : State) (below : List Frame) (R : Room) (Q : Option Value → own_Hs → Prop) (t : State) (o : Outcome) : Prop :=
  t.status = .running ∧ Ended t below o ∧ ∃ v L, o = .returned v ∧ (Fr n0 L ∧ ∃ H', own_Hp Z n0 t.heap H' ∧ Q v H') ∧ FrameEnd s o t L R.cells R.slots
def own_Go (Z : State) (n0 : Nat) (p : Program) (l : Launch) (e : Env) (R : Room) (s : State) (m : MethodId) (args : Array Value) (below : List Frame) (meth : Method) (c : Code) (P : State → Outcome → Prop)
    (k n : Nat) (H : own_Hs) (pc : Nat) (ls : List Slot) (st : List Value) : Prop :=
  ∀ T L, Stand p l e R s m args below meth c T L k n → Fr n0 L → own_Hp Z n0 T.heap H → ∃ t o, Steps p.tables e below (T.setTop (mkF m pc ⟨ls⟩ st)) t ∧ P t o
/-- G is the walk of y's body -/
def own_Wk (Z : State) (n0 : Nat) (R : Room) (y : MethodName) (bytes : ByteArray) (maxL : Nat) (ret : Option FieldType) (l : Launch) (Q : Option Value → own_Hs → Prop)
    (G : Nat → Nat → own_Hs → Nat → List Slot → List Value → Prop) : Prop :=
  ∃ p e s m args below meth c, G = own_Go Z n0 p l e R s m args below meth c (own_P Z n0 s below R Q) ∧ p.tables.exec = Jvm.exec ∧ Z.Warmed39 s.vm ∧ c.code = bytes ∧ c.maxLocals = maxL ∧
    s.vm.findClass y.cls = some m.cls ∧ meth.name = y.name ∧ meth.sig.returnType = ret ∧ meth.locks = false
/-- y's contract -/
def own_Con (l : Launch) (Z : State) (n0 : Nat) (y : MethodName) (bytes : ByteArray) (maxL : Nat) (ret : Option FieldType) (ws : List Jvm.Cond) (rm : Room) (as : Array Value) (H : own_Hs) (Q : Option Value → own_Hs → Prop) : Prop :=
  ∀ h0, own_Hp Z n0 h0 H → MetFree l y (head1 (Jvm.Cond.code y bytes maxL ret :: ws) rm) (fun a U => a = as ∧ Z.Warmed39 U.vm ∧ U.heap = h0) (fun _ _ _ _ _ => True)
    (fun _ U o U' => ∃ v L, o = .returned v ∧ (Fr n0 L ∧ ∃ H', own_Hp Z n0 U'.heap H' ∧ Q v H') ∧ FrameEnd U o U' L rm.cells rm.slots)
section OwnKit
variable {Z : State} {a0 : Array Value} {n0 : Nat} {R : Room} {y : MethodName} {bytes : ByteArray} {maxL : Nat} {ret : Option FieldType} {l : Launch} {Q : Option Value → own_Hs → Prop}
  {G : Nat → Nat → own_Hs → Nat → List Slot → List Value → Prop} {k n : Nat} {H : own_Hs} {pc q q' : Nat} {ls ls' : List Slot} {st st' : List Value}
theorem own_con {ws : List Jvm.Cond} {as : Array Value} {ls0 : List Slot} (hp : plainFor y = true) (hef : ∀ m, entryFrame m as maxL = mkF m 0 ⟨ls0⟩ []) (body : ∀ G, own_Wk Z n0 R y bytes maxL ret l Q G → G 0 0 H 0 ls0 []) :
    own_Con l Z n0 y bytes maxL ret ws R as H Q := by
  intro h0 hH
  refine MetFree.of_bodySF hp hisR ?_
  intro p e s m args below meth c s₁ Bd hml0 hP hK
  obtain ⟨ha, hZ, hh⟩ := hP
  subst ha
  have e0 : s₁.heap = h0 := by rw [← hh, Bd.state]; rfl
  have hown : s.vm.findClass y.cls = some m.cls := findClass_of_methodNamed Bd.named
  have hnm := (name_of_methodNamed Bd.named Bd.method).1
  obtain ⟨t, o, stp, P⟩ := body _ ⟨p, e, s, m, args, below, meth, c, rfl, Bd.exec, hZ, Bd.bytes, hml0, hown, hnm, Bd.returns, BodyLoose.notSynchronized Bd⟩ s₁ [] (Stand.of_body Bd) (Fr.nil n0) (by rw [e0]; exact hH)
  exact ⟨t, o, castTop (hef m) stp, P⟩
/-- a step that touches the frame alone -/
theorem own_Wk.of (C : own_Wk Z n0 R y bytes maxL ret l Q G) (K : G k n H q ls' st')
    (h : ∀ (p : Program) (e : Env) (T t : State) (m : MethodId) (below : List Frame) (c : Code), p.tables.exec = Jvm.exec → c.code = bytes → At T m c below → Steps p.tables e below (T.setTop (mkF m q ⟨ls'⟩ st')) t → Steps p.tables e below (T.setTop (mkF m pc ⟨ls⟩ st)) t) :
    G k n H pc ls st := by
  obtain ⟨p, e, s, m, args, below, meth, c, rfl, hx, hZ, hby, hml, hown, hnm, hret, hlk⟩ := C
  intro T L X N hH
  obtain ⟨t, o, stp, P⟩ := K T L X N hH
  exact ⟨t, o, h p e T t m below c hx hby X.here stp, P⟩
theorem own_Wk.more {k' n' : Nat} (C : own_Wk Z n0 R y bytes maxL ret l Q G) (hk : k ≤ k') (hn : n ≤ n') (K : G k' n' H pc ls st) : G k n H pc ls st := by
  obtain ⟨p, e, s, m, args, below, meth, c, rfl, hx, hZ, hby, hml, hown, hnm, hret, hlk⟩ := C
  exact fun T L X N hH => K T L (X.more hk hn) N hH
theorem own_Wk.iloadN (C : own_Wk Z n0 R y bytes maxL ret l Q G) {j : Fin 4} {v : Int32} (hd : decode bytes pc = .ok (.iload_n j, 1)) (hl : (Array.mk ls)[j.val]? = some (.val (.int v))) (hq : pc + 1 = q) (K : G k n H q ls (.int v :: st)) : G k n H pc ls st := by
  subst hq; exact C.of K fun _ _ _ _ _ _ _ hx hby X s => XS.iloadN X hx rfl (hb hby hd) hl s
theorem own_Wk.iload (C : own_Wk Z n0 R y bytes maxL ret l Q G) {j : Nat} {v : Int32} (hd : decode bytes pc = .ok (.iload j, 2)) (hl : (Array.mk ls)[j]? = some (.val (.int v))) (hq : pc + 2 = q) (K : G k n H q ls (.int v :: st)) : G k n H pc ls st := by
  subst hq; exact C.of K fun _ _ _ _ _ _ _ hx hby X s => XS.iload X hx rfl (hb hby hd) hl s
theorem own_Wk.lloadN (C : own_Wk Z n0 R y bytes maxL ret l Q G) {j : Fin 4} {v : Int64} (hd : decode bytes pc = .ok (.lload_n j, 1)) (hl : (Array.mk ls)[j.val]? = some (.val (.long v))) (hq : pc + 1 = q) (K : G k n H q ls (.long v :: st)) : G k n H pc ls st := by
  subst hq; exact C.of K fun _ _ _ _ _ _ _ hx hby X s => XS.lloadN X hx rfl (hb hby hd) hl s
theorem own_Wk.lload (C : own_Wk Z n0 R y bytes maxL ret l Q G) {j : Nat} {v : Int64} (hd : decode bytes pc = .ok (.lload j, 2)) (hl : (Array.mk ls)[j]? = some (.val (.long v))) (hq : pc + 2 = q) (K : G k n H q ls (.long v :: st)) : G k n H pc ls st := by
  subst hq; exact C.of K fun _ _ _ _ _ _ _ hx hby X s => XS.lload X hx rfl (hb hby hd) hl s
theorem own_Wk.aloadN (C : own_Wk Z n0 R y bytes maxL ret l Q G) {j : Fin 4} {v : Value} (hd : decode bytes pc = .ok (.aload_n j, 1)) (hl : (Array.mk ls)[j.val]? = some (.val v)) (hv : v.isRef = true) (hq : pc + 1 = q) (K : G k n H q ls (v :: st)) : G k n H pc ls st := by
  subst hq; exact C.of K fun _ _ _ _ _ _ _ hx hby X s => XS.aloadN X hx rfl (hb hby hd) hl hv s
theorem own_Wk.aload (C : own_Wk Z n0 R y bytes maxL ret l Q G) {j : Nat} {v : Value} (hd : decode bytes pc = .ok (.aload j, 2)) (hl : (Array.mk ls)[j]? = some (.val v)) (hv : v.isRef = true) (hq : pc + 2 = q) (K : G k n H q ls (v :: st)) : G k n H pc ls st := by
  subst hq; exact C.of K fun _ _ _ _ _ _ _ hx hby X s => XS.aload X hx rfl (hb hby hd) hl hv s
theorem own_Wk.istoreN (C : own_Wk Z n0 R y bytes maxL ret l Q G) {j : Fin 4} {v : Int32} (hd : decode bytes pc = .ok (.istore_n j, 1)) (hl : storeLocals (Array.mk ls) j.val (.int v) = some (Array.mk ls')) (hq : pc + 1 = q) (K : G k n H q ls' st) : G k n H pc ls (.int v :: st) := by
  subst hq; exact C.of K fun _ _ _ _ _ _ _ hx hby X s => XS.istoreN X hx rfl (hb hby hd) rfl hl s
theorem own_Wk.istore (C : own_Wk Z n0 R y bytes maxL ret l Q G) {j : Nat} {v : Int32} (hd : decode bytes pc = .ok (.istore j, 2)) (hl : storeLocals (Array.mk ls) j (.int v) = some (Array.mk ls')) (hq : pc + 2 = q) (K : G k n H q ls' st) : G k n H pc ls (.int v :: st) := by
  subst hq; exact C.of K fun _ _ _ _ _ _ _ hx hby X s => XS.istore X hx rfl (hb hby hd) rfl hl s
theorem own_Wk.lstoreN (C : own_Wk Z n0 R y bytes maxL ret l Q G) {j : Fin 4} {v : Int64} (hd : decode bytes pc = .ok (.lstore_n j, 1)) (hl : storeLocals (Array.mk ls) j.val (.long v) = some (Array.mk ls')) (hq : pc + 1 = q) (K : G k n H q ls' st) : G k n H pc ls (.long v :: st) := by
  subst hq; exact C.of K fun _ _ _ _ _ _ _ hx hby X s => XS.lstoreN X hx rfl (hb hby hd) rfl hl s
theorem own_Wk.lstore (C : own_Wk Z n0 R y bytes maxL ret l Q G) {j : Nat} {v : Int64} (hd : decode bytes pc = .ok (.lstore j, 2)) (hl : storeLocals (Array.mk ls) j (.long v) = some (Array.mk ls')) (hq : pc + 2 = q) (K : G k n H q ls' st) : G k n H pc ls (.long v :: st) := by
  subst hq; exact C.of K fun _ _ _ _ _ _ _ hx hby X s => XS.lstore X hx rfl (hb hby hd) rfl hl s
theorem own_Wk.astoreN (C : own_Wk Z n0 R y bytes maxL ret l Q G) {j : Fin 4} {v : Value} (hd : decode bytes pc = .ok (.astore_n j, 1)) (hv : v.isRef = true) (hl : storeLocals (Array.mk ls) j.val v = some (Array.mk ls')) (hq : pc + 1 = q) (K : G k n H q ls' st) : G k n H pc ls (v :: st) := by
  subst hq; exact C.of K fun _ _ _ _ _ _ _ hx hby X s => XS.astoreN X hx rfl (hb hby hd) rfl hv hl s
theorem own_Wk.astore (C : own_Wk Z n0 R y bytes maxL ret l Q G) {j : Nat} {v : Value} (hd : decode bytes pc = .ok (.astore j, 2)) (hv : v.isRef = true) (hl : storeLocals (Array.mk ls) j v = some (Array.mk ls')) (hq : pc + 2 = q) (K : G k n H q ls' st) : G k n H pc ls (v :: st) := by
  subst hq; exact C.of K fun _ _ _ _ _ _ _ hx hby X s => XS.astore X hx rfl (hb hby hd) rfl hv hl s
theorem own_Wk.iconst (C : own_Wk Z n0 R y bytes maxL ret l Q G) {i : Int} {z : Int32} (hd : decode bytes pc = .ok (.iconst i, 1)) (hz : Int32.ofInt i = z) (hq : pc + 1 = q) (K : G k n H q ls (.int z :: st)) : G k n H pc ls st := by
  subst hq hz; exact C.of K fun _ _ _ _ _ _ _ hx hby X s => XS.iconst X hx rfl (hb hby hd) s
theorem own_Wk.bipush (C : own_Wk Z n0 R y bytes maxL ret l Q G) {i : Int} {z : Int32} (hd : decode bytes pc = .ok (.bipush i, 2)) (hz : (Int8.ofInt i).toInt32 = z) (hq : pc + 2 = q) (K : G k n H q ls (.int z :: st)) : G k n H pc ls st := by
  subst hq hz; exact C.of K fun _ _ _ _ _ _ _ hx hby X s => XS.bipush X hx rfl (hb hby hd) s
theorem own_Wk.sipush (C : own_Wk Z n0 R y bytes maxL ret l Q G) {i : Int} {z : Int32} (hd : decode bytes pc = .ok (.sipush i, 3)) (hz : (Int16.ofInt i).toInt32 = z) (hq : pc + 3 = q) (K : G k n H q ls (.int z :: st)) : G k n H pc ls st := by
  subst hq hz; exact C.of K fun _ _ _ _ _ _ _ hx hby X s => XS.sipush X hx rfl (hb hby hd) s
theorem own_Wk.lconst (C : own_Wk Z n0 R y bytes maxL ret l Q G) {i : Fin 2} {z : Int64} (hd : decode bytes pc = .ok (.lconst i, 1)) (hz : Int64.ofNat i = z) (hq : pc + 1 = q) (K : G k n H q ls (.long z :: st)) : G k n H pc ls st := by
  subst hq hz; exact C.of K fun _ _ _ _ _ _ _ hx hby X s => XS.lconst X hx rfl (hb hby hd) s
theorem own_Wk.aconstNull (C : own_Wk Z n0 R y bytes maxL ret l Q G) (hd : decode bytes pc = .ok (.aconst_null, 1)) (hq : pc + 1 = q) (K : G k n H q ls (.null :: st)) : G k n H pc ls st := by
  subst hq; exact C.of K fun _ _ _ _ _ _ _ hx hby X s => XS.aconstNull X hx rfl (hb hby hd) s
theorem own_Wk.iadd (C : own_Wk Z n0 R y bytes maxL ret l Q G) {a b : Int32} (hd : decode bytes pc = .ok (.iadd, 1)) (hq : pc + 1 = q) (K : G k n H q ls (.int (a + b) :: st)) : G k n H pc ls (.int b :: .int a :: st) := by
  subst hq; exact C.of K fun _ _ _ _ _ _ _ hx hby X s => XS.iadd X hx rfl (hb hby hd) rfl s
theorem own_Wk.isub (C : own_Wk Z n0 R y bytes maxL ret l Q G) {a b : Int32} (hd : decode bytes pc = .ok (.isub, 1)) (hq : pc + 1 = q) (K : G k n H q ls (.int (a - b) :: st)) : G k n H pc ls (.int b :: .int a :: st) := by
  subst hq; exact C.of K fun _ _ _ _ _ _ _ hx hby X s => XS.isub X hx rfl (hb hby hd) rfl s
theorem own_Wk.imul (C : own_Wk Z n0 R y bytes maxL ret l Q G) {a b : Int32} (hd : decode bytes pc = .ok (.imul, 1)) (hq : pc + 1 = q) (K : G k n H q ls (.int (a * b) :: st)) : G k n H pc ls (.int b :: .int a :: st) := by
  subst hq; exact C.of K fun _ _ _ _ _ _ _ hx hby X s => XS.imul X hx rfl (hb hby hd) rfl s
theorem own_Wk.iand (C : own_Wk Z n0 R y bytes maxL ret l Q G) {a b : Int32} (hd : decode bytes pc = .ok (.iand, 1)) (hq : pc + 1 = q) (K : G k n H q ls (.int (a &&& b) :: st)) : G k n H pc ls (.int b :: .int a :: st) := by
  subst hq; exact C.of K fun _ _ _ _ _ _ _ hx hby X s => XS.iand X hx rfl (hb hby hd) rfl s
theorem own_Wk.ior (C : own_Wk Z n0 R y bytes maxL ret l Q G) {a b : Int32} (hd : decode bytes pc = .ok (.ior, 1)) (hq : pc + 1 = q) (K : G k n H q ls (.int (a ||| b) :: st)) : G k n H pc ls (.int b :: .int a :: st) := by
  subst hq; exact C.of K fun _ _ _ _ _ _ _ hx hby X s => XS.ior X hx rfl (hb hby hd) rfl s
theorem own_Wk.ixor (C : own_Wk Z n0 R y bytes maxL ret l Q G) {a b : Int32} (hd : decode bytes pc = .ok (.ixor, 1)) (hq : pc + 1 = q) (K : G k n H q ls (.int (a ^^^ b) :: st)) : G k n H pc ls (.int b :: .int a :: st) := by
  subst hq; exact C.of K fun _ _ _ _ _ _ _ hx hby X s => XS.ixor X hx rfl (hb hby hd) rfl s
theorem own_Wk.ishl (C : own_Wk Z n0 R y bytes maxL ret l Q G) {a b : Int32} (hd : decode bytes pc = .ok (.ishl, 1)) (hq : pc + 1 = q) (K : G k n H q ls (.int (a <<< (b &&& 31)) :: st)) : G k n H pc ls (.int b :: .int a :: st) := by
  subst hq; exact C.of K fun _ _ _ _ _ _ _ hx hby X s => XS.ishl X hx rfl (hb hby hd) rfl s
theorem own_Wk.ishr (C : own_Wk Z n0 R y bytes maxL ret l Q G) {a b : Int32} (hd : decode bytes pc = .ok (.ishr, 1)) (hq : pc + 1 = q) (K : G k n H q ls (.int (a >>> (b &&& 31)) :: st)) : G k n H pc ls (.int b :: .int a :: st) := by
  subst hq; exact C.of K fun _ _ _ _ _ _ _ hx hby X s => XS.ishr X hx rfl (hb hby hd) rfl s
theorem own_Wk.iushr (C : own_Wk Z n0 R y bytes maxL ret l Q G) {a b : Int32} (hd : decode bytes pc = .ok (.iushr, 1)) (hq : pc + 1 = q) (K : G k n H q ls (.int ((a.toUInt32 >>> (b &&& 31).toUInt32).toInt32) :: st)) : G k n H pc ls (.int b :: .int a :: st) := by
  subst hq; exact C.of K fun _ _ _ _ _ _ _ hx hby X s => XS.iushr X hx rfl (hb hby hd) rfl s
theorem own_Wk.ladd (C : own_Wk Z n0 R y bytes maxL ret l Q G) {a b : Int64} (hd : decode bytes pc = .ok (.ladd, 1)) (hq : pc + 1 = q) (K : G k n H q ls (.long (a + b) :: st)) : G k n H pc ls (.long b :: .long a :: st) := by
  subst hq; exact C.of K fun _ _ _ _ _ _ _ hx hby X s => XS.ladd X hx rfl (hb hby hd) rfl s
theorem own_Wk.lsub (C : own_Wk Z n0 R y bytes maxL ret l Q G) {a b : Int64} (hd : decode bytes pc = .ok (.lsub, 1)) (hq : pc + 1 = q) (K : G k n H q ls (.long (a - b) :: st)) : G k n H pc ls (.long b :: .long a :: st) := by
  subst hq; exact C.of K fun _ _ _ _ _ _ _ hx hby X s => XS.lsub X hx rfl (hb hby hd) rfl s
theorem own_Wk.lmul (C : own_Wk Z n0 R y bytes maxL ret l Q G) {a b : Int64} (hd : decode bytes pc = .ok (.lmul, 1)) (hq : pc + 1 = q) (K : G k n H q ls (.long (a * b) :: st)) : G k n H pc ls (.long b :: .long a :: st) := by
  subst hq; exact C.of K fun _ _ _ _ _ _ _ hx hby X s => XS.lmul X hx rfl (hb hby hd) rfl s
theorem own_Wk.land (C : own_Wk Z n0 R y bytes maxL ret l Q G) {a b : Int64} (hd : decode bytes pc = .ok (.land, 1)) (hq : pc + 1 = q) (K : G k n H q ls (.long (a &&& b) :: st)) : G k n H pc ls (.long b :: .long a :: st) := by
  subst hq; exact C.of K fun _ _ _ _ _ _ _ hx hby X s => XS.land X hx rfl (hb hby hd) rfl s
theorem own_Wk.lor (C : own_Wk Z n0 R y bytes maxL ret l Q G) {a b : Int64} (hd : decode bytes pc = .ok (.lor, 1)) (hq : pc + 1 = q) (K : G k n H q ls (.long (a ||| b) :: st)) : G k n H pc ls (.long b :: .long a :: st) := by
  subst hq; exact C.of K fun _ _ _ _ _ _ _ hx hby X s => XS.lor X hx rfl (hb hby hd) rfl s
theorem own_Wk.lxor (C : own_Wk Z n0 R y bytes maxL ret l Q G) {a b : Int64} (hd : decode bytes pc = .ok (.lxor, 1)) (hq : pc + 1 = q) (K : G k n H q ls (.long (a ^^^ b) :: st)) : G k n H pc ls (.long b :: .long a :: st) := by
  subst hq; exact C.of K fun _ _ _ _ _ _ _ hx hby X s => XS.lxor X hx rfl (hb hby hd) rfl s
theorem own_Wk.lshl (C : own_Wk Z n0 R y bytes maxL ret l Q G) {a : Int64} {b : Int32} (hd : decode bytes pc = .ok (.lshl, 1)) (hq : pc + 1 = q) (K : G k n H q ls (.long (a <<< (b &&& 0x3f).toInt64) :: st)) : G k n H pc ls (.int b :: .long a :: st) := by
  subst hq; exact C.of K fun _ _ _ _ _ _ _ hx hby X s => XS.lshl X hx rfl (hb hby hd) rfl s
theorem own_Wk.lshr (C : own_Wk Z n0 R y bytes maxL ret l Q G) {a : Int64} {b : Int32} (hd : decode bytes pc = .ok (.lshr, 1)) (hq : pc + 1 = q) (K : G k n H q ls (.long (a >>> (b &&& 0x3f).toInt64) :: st)) : G k n H pc ls (.int b :: .long a :: st) := by
  subst hq; exact C.of K fun _ _ _ _ _ _ _ hx hby X s => XS.lshr X hx rfl (hb hby hd) rfl s
theorem own_Wk.lushr (C : own_Wk Z n0 R y bytes maxL ret l Q G) {a : Int64} {b : Int32} (hd : decode bytes pc = .ok (.lushr, 1)) (hq : pc + 1 = q) (K : G k n H q ls (.long ((a.toUInt64 >>> (b &&& 0x3f).toInt64.toUInt64).toInt64) :: st)) : G k n H pc ls (.int b :: .long a :: st) := by
  subst hq; exact C.of K fun _ _ _ _ _ _ _ hx hby X s => XS.lushr X hx rfl (hb hby hd) rfl s
theorem own_Wk.idiv (C : own_Wk Z n0 R y bytes maxL ret l Q G) {a b : Int32} (hd : decode bytes pc = .ok (.idiv, 1)) (hy : b ≠ 0) (hq : pc + 1 = q) (K : G k n H q ls (.int (a / b) :: st)) : G k n H pc ls (.int b :: .int a :: st) := by
  subst hq; exact C.of K fun _ _ _ _ _ _ _ hx hby X s => XS.idiv X hx rfl (hb hby hd) rfl hy s
theorem own_Wk.irem (C : own_Wk Z n0 R y bytes maxL ret l Q G) {a b : Int32} (hd : decode bytes pc = .ok (.irem, 1)) (hy : b ≠ 0) (hq : pc + 1 = q) (K : G k n H q ls (.int (a % b) :: st)) : G k n H pc ls (.int b :: .int a :: st) := by
  subst hq; exact C.of K fun _ _ _ _ _ _ _ hx hby X s => XS.irem X hx rfl (hb hby hd) rfl hy (by rw [show a - a / b * b = a % b from irem_eq_mod a b]; exact s)
theorem own_Wk.ldiv (C : own_Wk Z n0 R y bytes maxL ret l Q G) {a b : Int64} (hd : decode bytes pc = .ok (.ldiv, 1)) (hy : b ≠ 0) (hq : pc + 1 = q) (K : G k n H q ls (.long (a / b) :: st)) : G k n H pc ls (.long b :: .long a :: st) := by
  subst hq; exact C.of K fun _ _ _ _ _ _ _ hx hby X s => XS.ldiv X hx rfl (hb hby hd) rfl hy s
theorem own_Wk.lrem (C : own_Wk Z n0 R y bytes maxL ret l Q G) {a b : Int64} (hd : decode bytes pc = .ok (.lrem, 1)) (hy : b ≠ 0) (hq : pc + 1 = q) (K : G k n H q ls (.long (a % b) :: st)) : G k n H pc ls (.long b :: .long a :: st) := by
  subst hq; exact C.of K fun _ _ _ _ _ _ _ hx hby X s => XS.lrem X hx rfl (hb hby hd) rfl hy (by rw [show a - a / b * b = a % b from lrem_mod a b]; exact s)
theorem own_Wk.ineg (C : own_Wk Z n0 R y bytes maxL ret l Q G) {a : Int32} (hd : decode bytes pc = .ok (.ineg, 1)) (hq : pc + 1 = q) (K : G k n H q ls (.int (-a) :: st)) : G k n H pc ls (.int a :: st) := by
  subst hq; exact C.of K fun _ _ _ _ _ _ _ hx hby X s => XS.ineg X hx rfl (hb hby hd) rfl s
theorem own_Wk.lneg (C : own_Wk Z n0 R y bytes maxL ret l Q G) {a : Int64} (hd : decode bytes pc = .ok (.lneg, 1)) (hq : pc + 1 = q) (K : G k n H q ls (.long (-a) :: st)) : G k n H pc ls (.long a :: st) := by
  subst hq; exact C.of K fun _ _ _ _ _ _ _ hx hby X s => XS.lneg X hx rfl (hb hby hd) rfl s
theorem own_Wk.i2l (C : own_Wk Z n0 R y bytes maxL ret l Q G) {a : Int32} (hd : decode bytes pc = .ok (.i2l, 1)) (hq : pc + 1 = q) (K : G k n H q ls (.long (a.toInt64) :: st)) : G k n H pc ls (.int a :: st) := by
  subst hq; exact C.of K fun _ _ _ _ _ _ _ hx hby X s => XS.i2l X hx rfl (hb hby hd) rfl s
theorem own_Wk.l2i (C : own_Wk Z n0 R y bytes maxL ret l Q G) {a : Int64} (hd : decode bytes pc = .ok (.l2i, 1)) (hq : pc + 1 = q) (K : G k n H q ls (.int (a.toInt32) :: st)) : G k n H pc ls (.long a :: st) := by
  subst hq; exact C.of K fun _ _ _ _ _ _ _ hx hby X s => XS.l2i X hx rfl (hb hby hd) rfl s
theorem own_Wk.i2b (C : own_Wk Z n0 R y bytes maxL ret l Q G) {a : Int32} (hd : decode bytes pc = .ok (.i2b, 1)) (hq : pc + 1 = q) (K : G k n H q ls (.int (a.toInt8.toInt32) :: st)) : G k n H pc ls (.int a :: st) := by
  subst hq; exact C.of K fun _ _ _ _ _ _ _ hx hby X s => XS.i2b X hx rfl (hb hby hd) rfl s
theorem own_Wk.dup (C : own_Wk Z n0 R y bytes maxL ret l Q G) {v : Value} (hd : decode bytes pc = .ok (.dup, 1)) (hc : v.category = 1) (hq : pc + 1 = q) (K : G k n H q ls (v :: v :: st)) : G k n H pc ls (v :: st) := by
  subst hq; exact C.of K fun _ _ _ _ _ _ _ hx hby X s => XS.dup X hx rfl (hb hby hd) rfl hc s
theorem own_Wk.pop (C : own_Wk Z n0 R y bytes maxL ret l Q G) {v : Value} (hd : decode bytes pc = .ok (.pop, 1)) (hc : v.category = 1) (hq : pc + 1 = q) (K : G k n H q ls st) : G k n H pc ls (v :: st) := by
  subst hq; exact C.of K fun _ _ _ _ _ _ _ hx hby X s => XS.pop X hx rfl (hb hby hd) rfl hc s
theorem own_Wk.iinc (C : own_Wk Z n0 R y bytes maxL ret l Q G) {j : Nat} {i : Int} {v z : Int32} (hd : decode bytes pc = .ok (.iinc j i, 3)) (hl : (Array.mk ls)[j]? = some (.val (.int v))) (hz : Int32.ofInt i = z) (hl' : storeLocals (Array.mk ls) j (.int (v + z)) = some (Array.mk ls')) (hq : pc + 3 = q) (K : G k n H q ls' st) : G k n H pc ls st := by
  subst hq hz; exact C.of K fun _ _ _ _ _ _ _ hx hby X s => XS.iinc X hx rfl (hb hby hd) hl hl' s
theorem own_Wk.goto (C : own_Wk Z n0 R y bytes maxL ret l Q G) {o : Int} (hd : decode bytes pc = .ok (.goto o, 3)) (ho : 0 ≤ (pc : Int) + o) (hq : ((pc : Int) + o).toNat = q) (K : G k n H q ls st) : G k n H pc ls st := by
  exact C.of K fun _ _ _ _ _ _ _ hx hby X s => XS.goto X hx rfl rfl (hb hby hd) ho hq s
theorem own_Wk.icmpLt (C : own_Wk Z n0 R y bytes maxL ret l Q G) {a b : Int32} {o : Int} (hd : decode bytes pc = .ok (.if_icmp .lt o, 3)) (ho : 0 ≤ (pc : Int) + o) (hq : ((pc : Int) + o).toNat = q) (hq' : pc + 3 = q') (T : a < b → G k n H q ls st) (F : ¬ a < b → G k n H q' ls st) : G k n H pc ls (.int b :: .int a :: st) := by
  subst hq hq'
  by_cases h : a < b
  · exact C.of (T h) fun _ _ _ _ _ _ _ hx hby X s => XS.icmpYes X hx rfl rfl (hb hby hd) rfl (tlt h).1 ho rfl s
  · exact C.of (F h) fun _ _ _ _ _ _ _ hx hby X s => XS.icmpNo X hx rfl (hb hby hd) rfl (flt h).1 s
theorem own_Wk.ifLt (C : own_Wk Z n0 R y bytes maxL ret l Q G) {a : Int32} {o : Int} (hd : decode bytes pc = .ok (.ifCond .lt o, 3)) (ho : 0 ≤ (pc : Int) + o) (hq : ((pc : Int) + o).toNat = q) (hq' : pc + 3 = q') (T : a < 0 → G k n H q ls st) (F : ¬ a < 0 → G k n H q' ls st) : G k n H pc ls (.int a :: st) := by
  subst hq hq'
  by_cases h : a < 0
  · exact C.of (T h) fun _ _ _ _ _ _ _ hx hby X s => XS.ifYes X hx rfl rfl (hb hby hd) rfl ((if0 _ _).trans (tlt h).1) ho rfl s
  · exact C.of (F h) fun _ _ _ _ _ _ _ hx hby X s => XS.ifNo X hx rfl (hb hby hd) rfl ((if0 _ _).trans (flt h).1) s
theorem own_Wk.icmpGe (C : own_Wk Z n0 R y bytes maxL ret l Q G) {a b : Int32} {o : Int} (hd : decode bytes pc = .ok (.if_icmp .ge o, 3)) (ho : 0 ≤ (pc : Int) + o) (hq : ((pc : Int) + o).toNat = q) (hq' : pc + 3 = q') (T : a < b → G k n H q' ls st) (F : ¬ a < b → G k n H q ls st) : G k n H pc ls (.int b :: .int a :: st) := by
  subst hq hq'
  by_cases h : a < b
  · exact C.of (T h) fun _ _ _ _ _ _ _ hx hby X s => XS.icmpNo X hx rfl (hb hby hd) rfl (tlt h).2.1 s
  · exact C.of (F h) fun _ _ _ _ _ _ _ hx hby X s => XS.icmpYes X hx rfl rfl (hb hby hd) rfl (flt h).2.1 ho rfl s
theorem own_Wk.ifGe (C : own_Wk Z n0 R y bytes maxL ret l Q G) {a : Int32} {o : Int} (hd : decode bytes pc = .ok (.ifCond .ge o, 3)) (ho : 0 ≤ (pc : Int) + o) (hq : ((pc : Int) + o).toNat = q) (hq' : pc + 3 = q') (T : a < 0 → G k n H q' ls st) (F : ¬ a < 0 → G k n H q ls st) : G k n H pc ls (.int a :: st) := by
  subst hq hq'
  by_cases h : a < 0
  · exact C.of (T h) fun _ _ _ _ _ _ _ hx hby X s => XS.ifNo X hx rfl (hb hby hd) rfl ((if0 _ _).trans (tlt h).2.1) s
  · exact C.of (F h) fun _ _ _ _ _ _ _ hx hby X s => XS.ifYes X hx rfl rfl (hb hby hd) rfl ((if0 _ _).trans (flt h).2.1) ho rfl s
theorem own_Wk.icmpGt (C : own_Wk Z n0 R y bytes maxL ret l Q G) {a b : Int32} {o : Int} (hd : decode bytes pc = .ok (.if_icmp .gt o, 3)) (ho : 0 ≤ (pc : Int) + o) (hq : ((pc : Int) + o).toNat = q) (hq' : pc + 3 = q') (T : b < a → G k n H q ls st) (F : ¬ b < a → G k n H q' ls st) : G k n H pc ls (.int b :: .int a :: st) := by
  subst hq hq'
  by_cases h : b < a
  · exact C.of (T h) fun _ _ _ _ _ _ _ hx hby X s => XS.icmpYes X hx rfl rfl (hb hby hd) rfl (tlt h).2.2.1 ho rfl s
  · exact C.of (F h) fun _ _ _ _ _ _ _ hx hby X s => XS.icmpNo X hx rfl (hb hby hd) rfl (flt h).2.2.1 s
theorem own_Wk.ifGt (C : own_Wk Z n0 R y bytes maxL ret l Q G) {a : Int32} {o : Int} (hd : decode bytes pc = .ok (.ifCond .gt o, 3)) (ho : 0 ≤ (pc : Int) + o) (hq : ((pc : Int) + o).toNat = q) (hq' : pc + 3 = q') (T : 0 < a → G k n H q ls st) (F : ¬ 0 < a → G k n H q' ls st) : G k n H pc ls (.int a :: st) := by
  subst hq hq'
  by_cases h : 0 < a
  · exact C.of (T h) fun _ _ _ _ _ _ _ hx hby X s => XS.ifYes X hx rfl rfl (hb hby hd) rfl ((if0 _ _).trans (tlt h).2.2.1) ho rfl s
  · exact C.of (F h) fun _ _ _ _ _ _ _ hx hby X s => XS.ifNo X hx rfl (hb hby hd) rfl ((if0 _ _).trans (flt h).2.2.1) s
theorem own_Wk.icmpLe (C : own_Wk Z n0 R y bytes maxL ret l Q G) {a b : Int32} {o : Int} (hd : decode bytes pc = .ok (.if_icmp .le o, 3)) (ho : 0 ≤ (pc : Int) + o) (hq : ((pc : Int) + o).toNat = q) (hq' : pc + 3 = q') (T : b < a → G k n H q' ls st) (F : ¬ b < a → G k n H q ls st) : G k n H pc ls (.int b :: .int a :: st) := by
  subst hq hq'
  by_cases h : b < a
  · exact C.of (T h) fun _ _ _ _ _ _ _ hx hby X s => XS.icmpNo X hx rfl (hb hby hd) rfl (tlt h).2.2.2 s
  · exact C.of (F h) fun _ _ _ _ _ _ _ hx hby X s => XS.icmpYes X hx rfl rfl (hb hby hd) rfl (flt h).2.2.2 ho rfl s
theorem own_Wk.ifLe (C : own_Wk Z n0 R y bytes maxL ret l Q G) {a : Int32} {o : Int} (hd : decode bytes pc = .ok (.ifCond .le o, 3)) (ho : 0 ≤ (pc : Int) + o) (hq : ((pc : Int) + o).toNat = q) (hq' : pc + 3 = q') (T : 0 < a → G k n H q' ls st) (F : ¬ 0 < a → G k n H q ls st) : G k n H pc ls (.int a :: st) := by
  subst hq hq'
  by_cases h : 0 < a
  · exact C.of (T h) fun _ _ _ _ _ _ _ hx hby X s => XS.ifNo X hx rfl (hb hby hd) rfl ((if0 _ _).trans (tlt h).2.2.2) s
  · exact C.of (F h) fun _ _ _ _ _ _ _ hx hby X s => XS.ifYes X hx rfl rfl (hb hby hd) rfl ((if0 _ _).trans (flt h).2.2.2) ho rfl s
theorem own_Wk.icmpEq (C : own_Wk Z n0 R y bytes maxL ret l Q G) {a b : Int32} {o : Int} (hd : decode bytes pc = .ok (.if_icmp .eq o, 3)) (ho : 0 ≤ (pc : Int) + o) (hq : ((pc : Int) + o).toNat = q) (hq' : pc + 3 = q') (T : a = b → G k n H q ls st) (F : ¬ a = b → G k n H q' ls st) : G k n H pc ls (.int b :: .int a :: st) := by
  subst hq hq'
  by_cases h : a = b
  · exact C.of (T h) fun _ _ _ _ _ _ _ hx hby X s => XS.icmpYes X hx rfl rfl (hb hby hd) rfl (teq h).1 ho rfl s
  · exact C.of (F h) fun _ _ _ _ _ _ _ hx hby X s => XS.icmpNo X hx rfl (hb hby hd) rfl (feq h).1 s
theorem own_Wk.ifEq (C : own_Wk Z n0 R y bytes maxL ret l Q G) {a : Int32} {o : Int} (hd : decode bytes pc = .ok (.ifCond .eq o, 3)) (ho : 0 ≤ (pc : Int) + o) (hq : ((pc : Int) + o).toNat = q) (hq' : pc + 3 = q') (T : a = 0 → G k n H q ls st) (F : ¬ a = 0 → G k n H q' ls st) : G k n H pc ls (.int a :: st) := by
  subst hq hq'
  by_cases h : a = 0
  · exact C.of (T h) fun _ _ _ _ _ _ _ hx hby X s => XS.ifYes X hx rfl rfl (hb hby hd) rfl ((if0 _ _).trans (teq h).1) ho rfl s
  · exact C.of (F h) fun _ _ _ _ _ _ _ hx hby X s => XS.ifNo X hx rfl (hb hby hd) rfl ((if0 _ _).trans (feq h).1) s
theorem own_Wk.icmpNe (C : own_Wk Z n0 R y bytes maxL ret l Q G) {a b : Int32} {o : Int} (hd : decode bytes pc = .ok (.if_icmp .ne o, 3)) (ho : 0 ≤ (pc : Int) + o) (hq : ((pc : Int) + o).toNat = q) (hq' : pc + 3 = q') (T : a = b → G k n H q' ls st) (F : ¬ a = b → G k n H q ls st) : G k n H pc ls (.int b :: .int a :: st) := by
  subst hq hq'
  by_cases h : a = b
  · exact C.of (T h) fun _ _ _ _ _ _ _ hx hby X s => XS.icmpNo X hx rfl (hb hby hd) rfl (teq h).2 s
  · exact C.of (F h) fun _ _ _ _ _ _ _ hx hby X s => XS.icmpYes X hx rfl rfl (hb hby hd) rfl (feq h).2 ho rfl s
theorem own_Wk.ifNe (C : own_Wk Z n0 R y bytes maxL ret l Q G) {a : Int32} {o : Int} (hd : decode bytes pc = .ok (.ifCond .ne o, 3)) (ho : 0 ≤ (pc : Int) + o) (hq : ((pc : Int) + o).toNat = q) (hq' : pc + 3 = q') (T : a = 0 → G k n H q' ls st) (F : ¬ a = 0 → G k n H q ls st) : G k n H pc ls (.int a :: st) := by
  subst hq hq'
  by_cases h : a = 0
  · exact C.of (T h) fun _ _ _ _ _ _ _ hx hby X s => XS.ifNo X hx rfl (hb hby hd) rfl ((if0 _ _).trans (teq h).2) s
  · exact C.of (F h) fun _ _ _ _ _ _ _ hx hby X s => XS.ifYes X hx rfl rfl (hb hby hd) rfl ((if0 _ _).trans (feq h).2) ho rfl s
theorem own_Wk.lcmp0 (C : own_Wk Z n0 R y bytes maxL ret l Q G) {a b : Int64} (hd : decode bytes pc = .ok (.lcmp, 1)) (hq : pc + 1 = q) (K : G k n H q ls (.int (lcmpW a b) :: st)) : G k n H pc ls (.long b :: .long a :: st) := by
  subst hq; exact C.of K fun _ _ _ _ _ _ _ hx hby X s => XS.lcmp X hx rfl (hb hby hd) rfl s
theorem own_Wk.lcmpLt (C : own_Wk Z n0 R y bytes maxL ret l Q G) {a b : Int64} {o : Int} (hd : decode bytes pc = .ok (.lcmp, 1)) {q1 : Nat} (h1 : pc + 1 = q1) (hd1 : decode bytes q1 = .ok (.ifCond .lt o, 3)) (ho : 0 ≤ (q1 : Int) + o) (hq : ((q1 : Int) + o).toNat = q) (hq' : q1 + 3 = q') (T : a < b → G k n H q ls st) (F : ¬ a < b → G k n H q' ls st) : G k n H pc ls (.long b :: .long a :: st) :=
  C.lcmp0 hd h1 (C.ifLt hd1 ho hq hq' (fun h => T ((lw_lt a b).mp h)) (fun h => F fun h' => h ((lw_lt a b).mpr h')))
theorem own_Wk.lcmpGe (C : own_Wk Z n0 R y bytes maxL ret l Q G) {a b : Int64} {o : Int} (hd : decode bytes pc = .ok (.lcmp, 1)) {q1 : Nat} (h1 : pc + 1 = q1) (hd1 : decode bytes q1 = .ok (.ifCond .ge o, 3)) (ho : 0 ≤ (q1 : Int) + o) (hq : ((q1 : Int) + o).toNat = q) (hq' : q1 + 3 = q') (T : a < b → G k n H q' ls st) (F : ¬ a < b → G k n H q ls st) : G k n H pc ls (.long b :: .long a :: st) :=
  C.lcmp0 hd h1 (C.ifGe hd1 ho hq hq' (fun h => T ((lw_lt a b).mp h)) (fun h => F fun h' => h ((lw_lt a b).mpr h')))
theorem own_Wk.lcmpGt (C : own_Wk Z n0 R y bytes maxL ret l Q G) {a b : Int64} {o : Int} (hd : decode bytes pc = .ok (.lcmp, 1)) {q1 : Nat} (h1 : pc + 1 = q1) (hd1 : decode bytes q1 = .ok (.ifCond .gt o, 3)) (ho : 0 ≤ (q1 : Int) + o) (hq : ((q1 : Int) + o).toNat = q) (hq' : q1 + 3 = q') (T : b < a → G k n H q ls st) (F : ¬ b < a → G k n H q' ls st) : G k n H pc ls (.long b :: .long a :: st) :=
  C.lcmp0 hd h1 (C.ifGt hd1 ho hq hq' (fun h => T ((lw_gt a b).mp h)) (fun h => F fun h' => h ((lw_gt a b).mpr h')))
theorem own_Wk.lcmpLe (C : own_Wk Z n0 R y bytes maxL ret l Q G) {a b : Int64} {o : Int} (hd : decode bytes pc = .ok (.lcmp, 1)) {q1 : Nat} (h1 : pc + 1 = q1) (hd1 : decode bytes q1 = .ok (.ifCond .le o, 3)) (ho : 0 ≤ (q1 : Int) + o) (hq : ((q1 : Int) + o).toNat = q) (hq' : q1 + 3 = q') (T : b < a → G k n H q' ls st) (F : ¬ b < a → G k n H q ls st) : G k n H pc ls (.long b :: .long a :: st) :=
  C.lcmp0 hd h1 (C.ifLe hd1 ho hq hq' (fun h => T ((lw_gt a b).mp h)) (fun h => F fun h' => h ((lw_gt a b).mpr h')))
theorem own_Wk.lcmpEq (C : own_Wk Z n0 R y bytes maxL ret l Q G) {a b : Int64} {o : Int} (hd : decode bytes pc = .ok (.lcmp, 1)) {q1 : Nat} (h1 : pc + 1 = q1) (hd1 : decode bytes q1 = .ok (.ifCond .eq o, 3)) (ho : 0 ≤ (q1 : Int) + o) (hq : ((q1 : Int) + o).toNat = q) (hq' : q1 + 3 = q') (T : a = b → G k n H q ls st) (F : ¬ a = b → G k n H q' ls st) : G k n H pc ls (.long b :: .long a :: st) :=
  C.lcmp0 hd h1 (C.ifEq hd1 ho hq hq' (fun h => T ((lw_eq a b).mp h)) (fun h => F fun h' => h ((lw_eq a b).mpr h')))
theorem own_Wk.lcmpNe (C : own_Wk Z n0 R y bytes maxL ret l Q G) {a b : Int64} {o : Int} (hd : decode bytes pc = .ok (.lcmp, 1)) {q1 : Nat} (h1 : pc + 1 = q1) (hd1 : decode bytes q1 = .ok (.ifCond .ne o, 3)) (ho : 0 ≤ (q1 : Int) + o) (hq : ((q1 : Int) + o).toNat = q) (hq' : q1 + 3 = q') (T : a = b → G k n H q' ls st) (F : ¬ a = b → G k n H q ls st) : G k n H pc ls (.long b :: .long a :: st) :=
  C.lcmp0 hd h1 (C.ifNe hd1 ho hq hq' (fun h => T ((lw_eq a b).mp h)) (fun h => F fun h' => h ((lw_eq a b).mpr h')))
theorem own_Wk.nonnullY (C : own_Wk Z n0 R y bytes maxL ret l Q G) {b : Addr} {o : Int} (hd : decode bytes pc = .ok (.ifnonnull o, 3)) (ho : 0 ≤ (pc : Int) + o) (hq : ((pc : Int) + o).toNat = q) (K : G k n H q ls st) : G k n H pc ls (.ref b :: st) := by
  exact C.of K fun _ _ _ _ _ _ _ hx hby X s => XS.ifnonnullYes X hx rfl rfl (hb hby hd) rfl ho hq s
theorem own_Wk.nonnullN (C : own_Wk Z n0 R y bytes maxL ret l Q G) {o : Int} (hd : decode bytes pc = .ok (.ifnonnull o, 3)) (hq : pc + 3 = q) (K : G k n H q ls st) : G k n H pc ls (.null :: st) := by
  subst hq; exact C.of K fun _ _ _ _ _ _ _ hx hby X s => XS.ifnonnullNo X hx rfl (hb hby hd) rfl s
theorem own_Wk.ldc (C : own_Wk Z n0 R y bytes maxL ret l Q G) {i : Nat} {v : Int32} (hd : decode bytes pc = .ok (.ldc i, 2)) (w : (Jvm.Cond.constant y.cls i v).before a0 Z = true) (hq : pc + 2 = q) (K : G k n H q ls (.int v :: st)) : G k n H pc ls st := by
  subst hq
  obtain ⟨p, e, s, m, args, below, meth, c, rfl, hx, hZ, hby, hml, hown, hnm, hret, hlk⟩ := C
  intro T L X N hH
  obtain ⟨t, o, stp, P⟩ := K T L X N hH
  exact ⟨t, o, X.ldcInt hx hown (mvT hZ w) (g := mkF m pc ⟨ls⟩ st) rfl (hb hby hd) _ stp, P⟩
theorem own_Wk.ldc2 (C : own_Wk Z n0 R y bytes maxL ret l Q G) {i : Nat} {v : Int64} (hd : decode bytes pc = .ok (.ldc2_w i, 3)) (w : (Jvm.Cond.constantLong y.cls i v).before a0 Z = true) (hq : pc + 3 = q) (K : G k n H q ls (.long v :: st)) : G k n H pc ls st := by
  subst hq
  obtain ⟨p, e, s, m, args, below, meth, c, rfl, hx, hZ, hby, hml, hown, hnm, hret, hlk⟩ := C
  intro T L X N hH
  obtain ⟨t, o, stp, P⟩ := K T L X N hH
  exact ⟨t, o, X.ldc2Long hx hown (mvT hZ w) (g := mkF m pc ⟨ls⟩ st) rfl (hb hby hd) _ stp, P⟩
-- returns
theorem own_Wk.retI {z : Int32} (C : own_Wk Z n0 R y bytes maxL (some .int) l Q G) (hd : decode bytes pc = .ok (.ireturn, 1)) (hk : k ≤ R.cells) (hn : n ≤ R.slots) (hQ : Q (some (.int z)) H) : G k n H pc ls (.int z :: st) := by
  obtain ⟨p, e, s, m, args, below, meth, c, rfl, hx, hZ, hby, hml, hown, hnm, hret, hlk⟩ := C
  intro T L X N hH
  obtain ⟨fs, hr, hrun, hended, hW, hsame⟩ := X.leave (v := some (.int z)) (fun h => by rw [hret] at h; cases h) hlk
  exact ⟨_, _, retOut X hx hret rfl (Or.inl ⟨rfl, Or.inl rfl, z, rfl⟩) (hb hby hd) hr, hrun, hended, _, _, rfl, ⟨N, H, hH, hQ⟩, ⟨_, rfl⟩, hW, hsame.mono hk hn⟩
theorem own_Wk.retJ {z : Int64} (C : own_Wk Z n0 R y bytes maxL (some .long) l Q G) (hd : decode bytes pc = .ok (.lreturn, 1)) (hk : k ≤ R.cells) (hn : n ≤ R.slots) (hQ : Q (some (.long z)) H) : G k n H pc ls (.long z :: st) := by
  obtain ⟨p, e, s, m, args, below, meth, c, rfl, hx, hZ, hby, hml, hown, hnm, hret, hlk⟩ := C
  intro T L X N hH
  obtain ⟨fs, hr, hrun, hended, hW, hsame⟩ := X.leave (v := some (.long z)) (fun h => by rw [hret] at h; cases h) hlk
  exact ⟨_, _, retOut X hx hret rfl (Or.inr (Or.inl ⟨rfl, rfl, z, rfl⟩)) (hb hby hd) hr, hrun, hended, _, _, rfl, ⟨N, H, hH, hQ⟩, ⟨_, rfl⟩, hW, hsame.mono hk hn⟩
theorem own_Wk.retA {t : FieldType} {v : Value} (C : own_Wk Z n0 R y bytes maxL (some t) l Q G) (ht : t.isReference = true) (hn' : narrow t v = v) (hv : v.isRef = true) (hd : decode bytes pc = .ok (.areturn, 1)) (hk : k ≤ R.cells) (hn : n ≤ R.slots) (hQ : Q (some v) H) : G k n H pc ls (v :: st) := by
  obtain ⟨p, e, s, m, args, below, meth, c, rfl, hx, hZ, hby, hml, hown, hnm, hret, hlk⟩ := C
  intro T L X N hH
  obtain ⟨fs, hr, hrun, hended, hW, hsame⟩ := X.leave (v := some v) (fun h => by rw [hret] at h; cases h) hlk
  exact ⟨_, _, retOut X hx hret hn' (Or.inr (Or.inr (Or.inr (Or.inr ⟨rfl, ht, hv⟩)))) (hb hby hd) hr, hrun, hended, _, _, rfl, ⟨N, H, hH, hQ⟩, ⟨_, rfl⟩, hW, hsame.mono hk hn⟩
theorem own_Wk.retB {t : FieldType} {z : Int32} (C : own_Wk Z n0 R y bytes maxL (some t) l Q G) (ht : t = .boolean ∨ t = .byte ∨ t = .char ∨ t = .short) (hd : decode bytes pc = .ok (.ireturn, 1)) (hk : k ≤ R.cells) (hn : n ≤ R.slots) (hQ : Q (some (.int (nar t z))) H) : G k n H pc ls (.int z :: st) := by
  obtain ⟨p, e, s, m, args, below, meth, c, rfl, hx, hZ, hby, hml, hown, hnm, hret, hlk⟩ := C
  intro T L X N hH
  obtain ⟨fs, hr, hrun, hended, hW, hsame⟩ := X.leave (v := some (.int (nar t z))) (fun h => by rw [hret] at h; cases h) hlk
  exact ⟨_, _, retN X hx hret ht (hb hby hd) hr, hrun, hended, _, _, rfl, ⟨N, H, hH, hQ⟩, ⟨_, rfl⟩, hW, hsame.mono hk hn⟩
theorem own_Wk.retV (C : own_Wk Z n0 R y bytes maxL none l Q G) (hd : decode bytes pc = .ok (.return_, 1)) (hk : k ≤ R.cells) (hn : n ≤ R.slots) (hQ : Q none H) : G k n H pc ls [] := by
  obtain ⟨p, e, s, m, args, below, meth, c, rfl, hx, hZ, hby, hml, hown, hnm, hret, hlk⟩ := C
  intro T L X N hH
  obtain ⟨fs, hr, hrun, hended, hW, hsame⟩ := X.leave (v := none) (fun _ => rfl) hlk
  exact ⟨_, _, X.returnOut hx hret (hb hby hd) hr, hrun, hended, _, _, rfl, ⟨N, H, hH, hQ⟩, ⟨_, rfl⟩, hW, hsame.mono hk hn⟩
-- the abstract heap
theorem own_is_ext {h h' : Heap} {a : Addr} {o : own_Ob} (E : Ext h h') (F : own_is Z h a o) : own_is Z h' a o := by
  match o, F with
  | .inl q, F => obtain ⟨c, A, r⟩ := F; exact ⟨c, A.ext E, r⟩
  | .inr q, F => exact ⟨F.1.ext E, F.2.1, fun i f hf => (F.2.2 i f hf).ext E⟩
theorem own_is_ne {h h' : Heap} {a b : Addr} {sl : Nat} {v : Value} {o : own_Ob} (W : Wr h h' a sl v) (hne : b ≠ a) (F : own_is Z h b o) : own_is Z h' b o := by
  match o, F with
  | .inl q, F => obtain ⟨c, A, r⟩ := F; exact ⟨c, A.other W hne, r⟩
  | .inr q, F => exact ⟨F.1.wr W, F.2.1, fun i f hf => (F.2.2 i f hf).other W (Or.inl hne)⟩
theorem own_Hp_new {h h' : Heap} {o : own_Ob} (P : own_Hp Z n0 h H) (E : Ext h h') (hlt : h.size < h'.size) (F : own_is Z h' h.size o) : own_Hp Z n0 h' (H ++ [(h.size, o)]) := by
  obtain ⟨p1, p2, p3⟩ := P
  have key : ∀ (i : Nat) (a : Addr) (o' : own_Ob), (H ++ [(h.size, o)])[i]? = some (a, o') → (H[i]? = some (a, o') ∧ i < H.length) ∨ (i = H.length ∧ a = h.size ∧ o' = o) := by
    intro i a o' hi
    by_cases q : i < H.length
    · rw [List.getElem?_append_left q] at hi; exact Or.inl ⟨hi, q⟩
    · rw [List.getElem?_append_right (by omega)] at hi
      obtain ⟨j, hj⟩ : ∃ j, j = i - H.length := ⟨_, rfl⟩
      rw [← hj] at hi
      match j, hj, hi with
      | 0, hj, hi => exact Or.inr ⟨by omega, by simpa using (Prod.mk.inj (Option.some.inj hi)).1.symm, by simpa using (Prod.mk.inj (Option.some.inj hi)).2.symm⟩
      | j + 1, _, hi => simp at hi
  refine ⟨Nat.le_trans p1 E.1, fun i j a o1 o2 hi hj => ?_, fun i a o' hi => ?_⟩
  · rcases key i a o1 hi with ⟨h1, l1⟩ | ⟨h1, h2, -⟩ <;> rcases key j a o2 hj with ⟨g1, l2⟩ | ⟨g1, g2, -⟩
    · exact p2 i j a o1 o2 h1 g1
    · exact absurd (p3 i a o1 h1).2.1 (by rw [g2]; exact Nat.lt_irrefl _)
    · exact absurd (p3 j a o2 g1).2.1 (by rw [h2]; exact Nat.lt_irrefl _)
    · rw [h1, g1]
  · rcases key i a o' hi with ⟨h1, -⟩ | ⟨-, rfl, rfl⟩
    · obtain ⟨r1, r2, r3⟩ := p3 i a o' h1
      exact ⟨r1, Nat.lt_of_lt_of_le r2 E.1, own_is_ext E r3⟩
    · exact ⟨p1, hlt, F⟩
theorem own_Hp_set {h h' : Heap} {i : Nat} {a : Addr} {o o' : own_Ob} {sl : Nat} {v : Value} (P : own_Hp Z n0 h H) (hi : H[i]? = some (a, o)) (W : Wr h h' a sl v) (F : own_is Z h' a o') : own_Hp Z n0 h' (H.set i (a, o')) := by
  obtain ⟨p1, p2, p3⟩ := P
  have key : ∀ (j : Nat) (b : Addr) (ob : own_Ob), (H.set i (a, o'))[j]? = some (b, ob) → (j = i ∧ b = a ∧ ob = o') ∨ (j ≠ i ∧ H[j]? = some (b, ob)) := by
    intro j b ob hj
    rw [List.getElem?_set] at hj
    by_cases q : i = j
    · subst q
      rw [if_pos rfl] at hj
      split at hj
      · exact Or.inl ⟨rfl, (Prod.mk.inj (Option.some.inj hj)).1.symm, (Prod.mk.inj (Option.some.inj hj)).2.symm⟩
      · cases hj
    · rw [if_neg q] at hj; exact Or.inr ⟨fun z => q z.symm, hj⟩
  refine ⟨by rw [W.size]; exact p1, fun j j' b o1 o2 hj hj' => ?_, fun j b ob hj => ?_⟩
  · rcases key j b o1 hj with ⟨h1, h2, -⟩ | ⟨h1, h2⟩ <;> rcases key j' b o2 hj' with ⟨g1, g2, -⟩ | ⟨g1, g2⟩
    · rw [h1, g1]
    · subst h2; rw [h1]; exact p2 i j' _ o o2 hi g2
    · subst g2; rw [g1]; exact (p2 i j _ o o1 hi h2).symm
    · exact p2 j j' b o1 o2 h2 g2
  · rw [W.size]
    rcases key j b ob hj with ⟨-, rfl, rfl⟩ | ⟨h1, h2⟩
    · obtain ⟨r1, r2, -⟩ := p3 i _ _ hi; exact ⟨r1, r2, F⟩
    · obtain ⟨r1, r2, r3⟩ := p3 j b ob h2
      exact ⟨r1, r2, own_is_ne W (fun z => h1 (by subst z; exact (p2 i j _ o ob hi h2).symm)) r3⟩
-- arrays
theorem own_Wk.alen (C : own_Wk Z n0 R y bytes maxL ret l Q G) (i : Nat) {a : Addr} {ty : FieldType} {vs : List Value} {z : Int32} (hd : decode bytes pc = .ok (.arraylength, 1)) (hi : H[i]? = some (a, .inl (ty, vs))) (hz : vs.length.toInt32 = z) (hq : pc + 1 = q) (K : G k n H q ls (.int z :: st)) : G k n H pc ls (.ref a :: st) := by
  subst hq hz
  obtain ⟨p, e, s, m, args, below, meth, c, rfl, hx, hZ, hby, hml, hown, hnm, hret, hlk⟩ := C
  intro T L X N hH
  obtain ⟨-, -, cl, A, hc, hcI⟩ := hH.2.2 i _ _ hi
  obtain ⟨t, o, stp, P⟩ := K T L X N hH
  have hc' : cl.slots.toList = vs := hc
  refine ⟨t, o, X.arraylength hx (cell := cl) A.1 (State.isArrayOf_alike hZ.alike A.2.1) (g := mkF m pc ⟨ls⟩ (.ref a :: st)) rfl rfl (hb hby hd) _ ?_, P⟩
  rw [show cl.slots.size = vs.length by rw [← hc', Array.length_toList]]
  exact stp
theorem own_at {cl : Cell} {vs : List Value} {j : Int32} {v : Value} (hc : cl.slots.toList = vs) (h0 : ¬ j < 0) (hv : vs[j.toNatClampNeg]? = some v) : ¬ (j < 0 ∨ cl.slots.size ≤ j.toNatClampNeg) ∧ cl.slots[j.toNatClampNeg]? = some v := by
  rw [← hc, Array.getElem?_toList] at hv
  exact ⟨fun z => z.elim h0 fun z => by have := (Array.getElem?_eq_some_iff.mp hv).1; omega, hv⟩
theorem own_in {cl : Cell} {vs : List Value} {j : Int32} (hc : cl.slots.toList = vs) (h0 : ¬ j < 0) (hj : j.toNatClampNeg < vs.length) : ¬ (j < 0 ∨ cl.slots.size ≤ j.toNatClampNeg) :=
  fun z => z.elim h0 fun z => by rw [← hc, Array.length_toList] at hj; omega
theorem own_Wk.iaload (C : own_Wk Z n0 R y bytes maxL ret l Q G) (i : Nat) {a : Addr} {vs : List Value} {j : Int32} {v : Value} (hd : decode bytes pc = .ok (.iaload, 1)) (hi : H[i]? = some (a, .inl (.int, vs))) (h0 : ¬ j < 0) (hv : vs[j.toNatClampNeg]? = some v) (hq : pc + 1 = q) (K : G k n H q ls (v :: st)) : G k n H pc ls (.int j :: .ref a :: st) := by
  subst hq
  obtain ⟨p, e, s, m, args, below, meth, c, rfl, hx, hZ, hby, hml, hown, hnm, hret, hlk⟩ := C
  intro T L X N hH
  obtain ⟨-, -, cl, A, hc, hcI⟩ := hH.2.2 i _ _ hi
  obtain ⟨t, o, stp, P⟩ := K T L X N hH
  have q2 := own_at hc h0 hv
  exact ⟨t, o, X.iaload hx (j := j) (v := v) A.1 (State.isArrayOf_alike hZ.alike A.2.1) A.2.2 q2.1 q2.2 (g := mkF m pc ⟨ls⟩ (.int j :: .ref a :: st)) rfl rfl (hb hby hd) _ stp, P⟩
theorem own_Wk.laload (C : own_Wk Z n0 R y bytes maxL ret l Q G) (i : Nat) {a : Addr} {vs : List Value} {j : Int32} {v : Value} (hd : decode bytes pc = .ok (.laload, 1)) (hi : H[i]? = some (a, .inl (.long, vs))) (h0 : ¬ j < 0) (hv : vs[j.toNatClampNeg]? = some v) (hq : pc + 1 = q) (K : G k n H q ls (v :: st)) : G k n H pc ls (.int j :: .ref a :: st) := by
  subst hq
  obtain ⟨p, e, s, m, args, below, meth, c, rfl, hx, hZ, hby, hml, hown, hnm, hret, hlk⟩ := C
  intro T L X N hH
  obtain ⟨-, -, cl, A, hc, hcI⟩ := hH.2.2 i _ _ hi
  obtain ⟨t, o, stp, P⟩ := K T L X N hH
  have q2 := own_at hc h0 hv
  exact ⟨t, o, X.laload hx (j := j) (v := v) A.1 (State.isArrayOf_alike hZ.alike A.2.1) A.2.2 q2.1 q2.2 (g := mkF m pc ⟨ls⟩ (.int j :: .ref a :: st)) rfl rfl (hb hby hd) _ stp, P⟩
theorem own_Wk.baload (C : own_Wk Z n0 R y bytes maxL ret l Q G) (i : Nat) {a : Addr} {vs : List Value} {j : Int32} {v : Value} (hd : decode bytes pc = .ok (.baload, 1)) (hi : H[i]? = some (a, .inl (.byte, vs))) (h0 : ¬ j < 0) (hv : vs[j.toNatClampNeg]? = some v) (hq : pc + 1 = q) (K : G k n H q ls (v :: st)) : G k n H pc ls (.int j :: .ref a :: st) := by
  subst hq
  obtain ⟨p, e, s, m, args, below, meth, c, rfl, hx, hZ, hby, hml, hown, hnm, hret, hlk⟩ := C
  intro T L X N hH
  obtain ⟨-, -, cl, A, hc, hcI⟩ := hH.2.2 i _ _ hi
  obtain ⟨t, o, stp, P⟩ := K T L X N hH
  have q2 := own_at hc h0 hv
  exact ⟨t, o, X.baloadBytes hx (j := j) (v := v) A.1 (State.isArrayOf_alike hZ.alike A.2.1) A.2.2 q2.1 q2.2 (g := mkF m pc ⟨ls⟩ (.int j :: .ref a :: st)) rfl rfl (hb hby hd) _ stp, P⟩
theorem own_arr_set {h h' : Heap} {a : Addr} {cl : Cell} {ty : FieldType} {vs : List Value} {j : Nat} {v : Value} (A : Arr Z h a cl ty) (hc : cl.slots.toList = vs) (hcI : ty = .int → Z.vm.findClass "[I" = some cl.cls) (W : Wr h h' a j v) : own_is Z h' a (.inl (ty, vs.set j v)) := by
  refine ⟨cl.setSlot j v, A.same W, ?_, hcI⟩
  show (cl.slots.setIfInBounds j v).toList = vs.set j v
  rw [Array.toList_setIfInBounds, hc]
theorem own_Wk.iastore (C : own_Wk Z n0 R y bytes maxL ret l Q G) (i : Nat) {a : Addr} {vs : List Value} {j x : Int32} {H' : own_Hs} (hd : decode bytes pc = .ok (.iastore, 1)) (hi : H[i]? = some (a, .inl (.int, vs))) (h0 : ¬ j < 0) (hj : j.toNatClampNeg < vs.length) (hH' : H.set i (a, .inl (.int, vs.set j.toNatClampNeg (.int x))) = H') (hq : pc + 1 = q) (K : G k n H' q ls st) : G k n H pc ls (.int x :: .int j :: .ref a :: st) := by
  subst hq hH'
  obtain ⟨p, e, s, m, args, below, meth, c, rfl, hx, hZ, hby, hml, hown, hnm, hret, hlk⟩ := C
  intro T L X N hH
  obtain ⟨g1, -, cl, A, hc, hcI⟩ := hH.2.2 i _ _ hi
  obtain ⟨T', h', X', e', W, stp⟩ := stI X hx hZ rfl A (own_in hc h0 hj) (g := mkF m pc ⟨ls⟩ (.int x :: .int j :: .ref a :: st)) rfl rfl (hb hby hd)
  obtain ⟨t, o, st2, P⟩ := K T' _ X' (Fr.snoc X' N g1) (by rw [e']; exact own_Hp_set hH hi W (own_arr_set A hc hcI W))
  exact ⟨t, o, stp _ st2, P⟩
theorem own_Wk.lastore (C : own_Wk Z n0 R y bytes maxL ret l Q G) (i : Nat) {a : Addr} {vs : List Value} {j : Int32} {x : Int64} {H' : own_Hs} (hd : decode bytes pc = .ok (.lastore, 1)) (hi : H[i]? = some (a, .inl (.long, vs))) (h0 : ¬ j < 0) (hj : j.toNatClampNeg < vs.length) (hH' : H.set i (a, .inl (.long, vs.set j.toNatClampNeg (.long x))) = H') (hq : pc + 1 = q) (K : G k n H' q ls st) : G k n H pc ls (.long x :: .int j :: .ref a :: st) := by
  subst hq hH'
  obtain ⟨p, e, s, m, args, below, meth, c, rfl, hx, hZ, hby, hml, hown, hnm, hret, hlk⟩ := C
  intro T L X N hH
  obtain ⟨g1, -, cl, A, hc, hcI⟩ := hH.2.2 i _ _ hi
  obtain ⟨T', h', X', e', W, stp⟩ := stJ X hx hZ rfl A (own_in hc h0 hj) (g := mkF m pc ⟨ls⟩ (.long x :: .int j :: .ref a :: st)) rfl rfl (hb hby hd)
  obtain ⟨t, o, st2, P⟩ := K T' _ X' (Fr.snoc X' N g1) (by rw [e']; exact own_Hp_set hH hi W (own_arr_set A hc hcI W))
  exact ⟨t, o, stp _ st2, P⟩
theorem own_Wk.bastore (C : own_Wk Z n0 R y bytes maxL ret l Q G) (i : Nat) {a : Addr} {vs : List Value} {j x : Int32} {H' : own_Hs} (hd : decode bytes pc = .ok (.bastore, 1)) (hi : H[i]? = some (a, .inl (.byte, vs))) (h0 : ¬ j < 0) (hj : j.toNatClampNeg < vs.length) (hH' : H.set i (a, .inl (.byte, vs.set j.toNatClampNeg (.int (nar .byte x)))) = H') (hq : pc + 1 = q) (K : G k n H' q ls st) : G k n H pc ls (.int x :: .int j :: .ref a :: st) := by
  subst hq hH'
  obtain ⟨p, e, s, m, args, below, meth, c, rfl, hx, hZ, hby, hml, hown, hnm, hret, hlk⟩ := C
  intro T L X N hH
  obtain ⟨g1, -, cl, A, hc, hcI⟩ := hH.2.2 i _ _ hi
  obtain ⟨T', h', X', e', W, stp⟩ := stB X hx hZ rfl A (own_in hc h0 hj) (g := mkF m pc ⟨ls⟩ (.int x :: .int j :: .ref a :: st)) rfl rfl (hb hby hd)
  obtain ⟨t, o, st2, P⟩ := K T' _ X' (Fr.snoc X' N g1) (by rw [e']; exact own_Hp_set hH hi W (own_arr_set A hc hcI W))
  exact ⟨t, o, stp _ st2, P⟩
theorem own_Wk.newarr (C : own_Wk Z n0 R y bytes maxL ret l Q G) (cap : Nat) {aty : ArrayType} {z : Int32} {ty : FieldType} {vs : List Value} {k' n' : Nat} (hd : decode bytes pc = .ok (.newarray aty, 2)) (w : (Jvm.Cond.arrayClass (newarray.typeOf aty)).before a0 Z = true) (hz : ¬ z < 0) (hcap : z.toNatClampNeg ≤ cap) (hb8 : cap * 8 ≤ 536870912) (hc : k + 1 ≤ R.cells) (hl : n + cap ≤ R.slots)
    (hty : newarray.typeOf aty = ty) (hvs : List.replicate z.toNatClampNeg (defaultValue ty) = vs) (hk' : k + 1 = k') (hn' : n + cap = n') (hq : pc + 2 = q) (K : ∀ a, G k' n' (H ++ [(a, .inl (ty, vs))]) q ls (.ref a :: st)) : G k n H pc ls (.int z :: st) := by
  subst hq hvs hty hk' hn'
  obtain ⟨p, e, s, m, args, below, meth, c, rfl, hx, hZ, hby, hml, hown, hnm, hret, hlk⟩ := C
  intro T L X N hH
  have c8 : z.toNatClampNeg * componentBytes (newarray.typeOf aty) ≤ 536870912 := Nat.le_trans (Nat.mul_le_mul hcap (by cases aty <;> decide : componentBytes (newarray.typeOf aty) ≤ 8)) hb8
  obtain ⟨cA, kA, comp, f1, -, -, X', stp⟩ := X.newarrayPrim hx (mvA hZ w) (g := mkF m pc ⟨ls⟩ (.int z :: st)) rfl (hb hby hd) rfl hz c8 hc (by omega)
  obtain ⟨cZ, kZ, cp, g1, g2, g3⟩ := Jvm.Cond.arrayClass_spec w
  rw [hZ.alike.findClass] at f1
  cases f1.symm.trans g1
  have hN : (T.heap.push (newA cA (newarray.typeOf aty) z))[T.heap.size]? = some (newA cA (newarray.typeOf aty) z) := by simp
  have A : Arr Z (T.heap.push (newA cA (newarray.typeOf aty) z)) T.heap.size (newA cA (newarray.typeOf aty) z) (newarray.typeOf aty) := ⟨hN, ⟨by simp [newA], kZ, g2, cp, g3⟩, by simp [newA]⟩
  obtain ⟨t, o, st2, P⟩ := K T.heap.size _ _ (X'.more (Nat.le_refl _) (by omega)) N (by
    refine own_Hp_new hH (ext_of fun a q => ?_) A.lt ⟨_, A, ?_, fun q => ?_⟩
    · exact (Array.getElem?_push_lt q).trans (Array.getElem?_eq_getElem q).symm
    · show (newA cA (newarray.typeOf aty) z).slots.toList = _
      simp only [newA, Array.toList_replicate]
    · have q' : newarray.typeOf aty = .int := q
      rw [q'] at f1
      exact f1)
  exact ⟨t, o, stp _ st2, P⟩
-- objects
def own_Laid (Z : State) (a0 : Array Value) (Cn : String) : List (String × String × FieldType) → Prop
  | [] => True
  | d :: r => (Laid Z a0 Cn Cn d.1 d.2.1 ∧ parseFieldDescriptor d.2.1 = some d.2.2) ∧ own_Laid Z a0 Cn r
theorem own_Laid.at {Cn : String} : ∀ {ds : List (String × String × FieldType)} {i : Nat} {d : String × String × FieldType}, own_Laid Z a0 Cn ds → ds[i]? = some d → Laid Z a0 Cn Cn d.1 d.2.1 ∧ parseFieldDescriptor d.2.1 = some d.2.2
  | [], _, _, _, h => by simp at h
  | d0 :: r, 0, d, L, h => by cases Option.some.inj h; exact L.1
  | d0 :: r, i + 1, d, L, h => own_Laid.at L.2 (by simpa using h)
def own_diff : List String → Bool
  | [] => true
  | x :: r => (r.all fun z => z != x) && own_diff r
theorem own_diff.inj : ∀ {xs : List String} {i j : Nat} {s : String}, own_diff xs = true → xs[i]? = some s → xs[j]? = some s → i = j
  | [], _, _, _, _, h, _ => by simp at h
  | x :: r, 0, 0, _, _, _, _ => rfl
  | x :: r, 0, j + 1, s, D, h, g => by
    simp only [own_diff, Bool.and_eq_true, List.all_eq_true, bne_iff_ne] at D
    cases Option.some.inj h
    exact absurd rfl (D.1 _ (List.mem_of_getElem? (by simpa using g)))
  | x :: r, i + 1, 0, s, D, h, g => by
    simp only [own_diff, Bool.and_eq_true, List.all_eq_true, bne_iff_ne] at D
    cases Option.some.inj g
    exact absurd rfl (D.1 _ (List.mem_of_getElem? (by simpa using h)))
  | x :: r, i + 1, j + 1, s, D, h, g => by
    simp only [own_diff, Bool.and_eq_true] at D
    exact congrArg (· + 1) (own_diff.inj (s := s) D.2 (by simpa using h) (by simpa using g))
theorem own_Wk.newobj (C : own_Wk Z n0 R y bytes maxL ret l Q G) (ds : List (String × String × FieldType)) {Cn : String} {ix nn k' n' : Nat} {fs : List (String × String × Value)} (hd : decode bytes pc = .ok (.new ix, 3)) (w1 : (Jvm.Cond.classLink y.cls ix Cn).before a0 Z = true) (w2 : (Jvm.Cond.instantiable Cn nn).before a0 Z = true) (w3 : (Jvm.Cond.initialized Cn).before a0 Z = true)
    (hL : own_Laid Z a0 Cn ds) (hdf : own_diff (ds.map fun d => d.1) = true) (hc : k + 1 ≤ R.cells) (hl : n + nn ≤ R.slots) (hfs : ds.map (fun d => (d.1, d.2.1, defaultValue d.2.2)) = fs) (hk' : k + 1 = k') (hn' : n + nn = n') (hq : pc + 3 = q)
    (K : ∀ a, G k' n' (H ++ [(a, .inr (Cn, fs))]) q ls (.ref a :: st)) : G k n H pc ls st := by
  subst hq hfs hk' hn'
  obtain ⟨p, e, s, m, args, below, meth, c, rfl, hx, hZ, hby, hml, hown, hnm, hret, hlk⟩ := C
  intro T L X N hH
  obtain ⟨T', h', X', e', E, A, D, -, stp⟩ := newO X hx hZ hown w1 w2 w3 rfl (g := mkF m pc ⟨ls⟩ st) rfl (hb hby hd) hc hl
  have at_ : ∀ (i : Nat) (f : String × String × Value), (ds.map (fun d => (d.1, d.2.1, defaultValue d.2.2)))[i]? = some f → ∃ d : String × String × FieldType, ds[i]? = some d ∧ f = (d.1, d.2.1, defaultValue d.2.2) := by
    intro i f hf
    rw [List.getElem?_map] at hf
    obtain ⟨d, h1, h2⟩ := Option.map_eq_some_iff.mp hf
    exact ⟨d, h1, h2.symm⟩
  obtain ⟨t, o, st2, P⟩ := K T.heap.size T' _ X' N (by
    rw [e']
    refine own_Hp_new hH E A.lt ⟨A, fun i j f g hf hg hs => ?_, fun i f hf => ?_⟩
    · obtain ⟨d, h1, rfl⟩ := at_ i f hf
      obtain ⟨d', h1', rfl⟩ := at_ j g hg
      by_cases hn : d.1 = d'.1
      · exact own_diff.inj hdf (s := d.1) (by rw [List.getElem?_map, h1]; rfl) (by rw [List.getElem?_map, h1', hn]; rfl)
      · exact absurd hs (slot_ne (hL.at h1).1 (hL.at h1').1 hn (hL.at h1).2 (hL.at h1').2)
    · obtain ⟨d, h1, rfl⟩ := at_ i f hf
      exact D (hL.at h1).1 (hL.at h1).2)
  exact ⟨t, o, stp _ st2, P⟩
theorem own_Wk.getf (C : own_Wk Z n0 R y bytes maxL ret l Q G) (i j : Nat) {ix : Nat} {Cn nm ds : String} {a : Addr} {fs : List (String × String × Value)} {v : Value} (hd : decode bytes pc = .ok (.getfield ix, 3)) (w : (Jvm.Cond.fieldLink y.cls ix Cn nm ds).before a0 Z = true)
    (hi : H[i]? = some (a, .inr (Cn, fs))) (hj : fs[j]? = some (nm, ds, v)) (hq : pc + 3 = q) (K : G k n H q ls (v :: st)) : G k n H pc ls (.ref a :: st) := by
  subst hq
  obtain ⟨p, e, s, m, args, below, meth, c, rfl, hx, hZ, hby, hml, hown, hnm, hret, hlk⟩ := C
  intro T L X N hH
  obtain ⟨-, -, hE, hS, hF⟩ := hH.2.2 i _ _ hi
  obtain ⟨T', X', e', stp⟩ := getF X hx hZ hown (host := "") (Or.inl w) Via.refl rfl (hF j _ hj) (g := mkF m pc ⟨ls⟩ (.ref a :: st)) rfl rfl (hb hby hd)
  obtain ⟨t, o, st2, P⟩ := K T' _ X' N (by rw [e']; exact hH)
  exact ⟨t, o, stp _ st2, P⟩
theorem own_Wk.putf (C : own_Wk Z n0 R y bytes maxL ret l Q G) (i j : Nat) {ix kk : Nat} {Cn nm ds : String} {a : Addr} {fs : List (String × String × Value)} {v old : Value} {ty : FieldType} {H' : own_Hs} (hd : decode bytes pc = .ok (.putfield ix, 3)) (w : (Jvm.Cond.fieldLink y.cls ix Cn nm ds).before a0 Z = true)
    (hL : (Jvm.Cond.lays Cn Cn nm ds).before a0 Z = true ∨ ((Jvm.Cond.laysFinal Cn Cn nm ds).before a0 Z = true ∧ y.cls = Cn ∧ y.name = "<init>")) (wi : (Jvm.Cond.instantiable Cn kk).before a0 Z = true)
    (hi : H[i]? = some (a, .inr (Cn, fs))) (hj : fs[j]? = some (nm, ds, old)) (hty : parseFieldDescriptor ds = some ty) (hn' : narrow ty v = v) (hf : fits ty v = true) (hH' : H.set i (a, .inr (Cn, fs.set j (nm, ds, v))) = H') (hq : pc + 3 = q) (K : G k n H' q ls st) : G k n H pc ls (v :: .ref a :: st) := by
  subst hq hH'
  obtain ⟨p, e, s, m, args, below, meth, c, rfl, hx, hZ, hby, hml, hown, hnm, hret, hlk⟩ := C
  intro T L X N hH
  obtain ⟨g1, -, hE, hS, hF⟩ := hH.2.2 i _ _ hi
  obtain ⟨T', h', X', e', W, stp⟩ := putF X hx hZ hown (host := "") (Or.inl w) Via.refl rfl (hF j _ hj) hE (hL.imp id fun z => ⟨z.1, z.2.1, hnm.trans z.2.2⟩) wi hty hn' hf (g := mkF m pc ⟨ls⟩ (v :: .ref a :: st)) rfl rfl (hb hby hd)
  have key : ∀ (i' : Nat) (f : String × String × Value), (fs.set j (nm, ds, v))[i']? = some f → (i' = j ∧ f = (nm, ds, v)) ∨ (i' ≠ j ∧ fs[i']? = some f) := by
    intro i' f hf'
    rw [List.getElem?_set] at hf'
    by_cases q : j = i'
    · subst q
      rw [if_pos rfl] at hf'
      split at hf'
      · exact Or.inl ⟨rfl, (Option.some.inj hf').symm⟩
      · cases hf'
    · rw [if_neg q] at hf'; exact Or.inr ⟨fun z => q z.symm, hf'⟩
  obtain ⟨t, o, st2, P⟩ := K T' _ X' (Fr.snoc X' N g1) (by
    rw [e']
    refine own_Hp_set hH hi W ⟨hE.wr W, fun i1 j1 f g h1 h2 hs => ?_, fun i1 f h1 => ?_⟩
    · rcases key i1 f h1 with ⟨z1, rfl⟩ | ⟨z1, z2⟩ <;> rcases key j1 g h2 with ⟨y1, rfl⟩ | ⟨y1, y2⟩
      · rw [z1, y1]
      · rw [z1]; exact hS j j1 (nm, ds, old) g hj y2 hs
      · rw [y1]; exact hS i1 j f (nm, ds, old) z2 hj hs
      · exact hS i1 j1 f g z2 y2 hs
    · rcases key i1 f h1 with ⟨z1, rfl⟩ | ⟨z1, z2⟩
      · exact (hF j _ hj).same W
      · exact (hF i1 f z2).other W (Or.inr fun z => z1 (hS i1 j f (nm, ds, old) z2 hj z)))
  exact ⟨t, o, stp _ st2, P⟩
theorem own_Wk.initO (C : own_Wk Z n0 R y bytes maxL ret l Q G) (W : Nat) {ix : Nat} {a : Addr} (hd : decode bytes pc = .ok (.invokespecial ix, 3)) (w1 : (Jvm.Cond.methodLink y.cls ix Lib.objectInit).before a0 Z = true) (w2 : (Jvm.Cond.instanceMethod Lib.objectInit).before a0 Z = true) (w3 : (Jvm.Cond.code Lib.objectInit ⟨#[0xb1]⟩ 1 none).before a0 Z = true)
    (hls : ls.length = maxL) (hf : 1 ≤ R.frames) (hW : (st.map fun v => v.category).sum ≤ W) (hl : W + 12 ≤ R.locals) (hq : pc + 3 = q) (K : G k n H q ls st) : G k n H pc ls (.ref a :: st) := by
  subst hq
  obtain ⟨p, e, s, m, args, below, meth, c, rfl, hx, hZ, hby, hml, hown, hnm, hret, hlk⟩ := C
  intro T L X N hH
  obtain ⟨T', X', e', stp⟩ := RoadKit.initO X hx hZ hown w1 w2 w3 rfl (g := mkF m pc ⟨ls⟩ (.ref a :: st)) rfl (by rw [hml]; exact hls) rfl (hb hby hd) hf (W := W) (by show 2 * 0 + _ ≤ _; rw [Nat.mul_zero, Nat.zero_add]; exact hW) hl
  obtain ⟨t, o, st2, P⟩ := K T' _ X' N (by rw [e']; exact hH)
  exact ⟨t, o, stp _ st2, P⟩
-- calls
theorem own_Wk.callS (C : own_Wk Z n0 R y bytes maxL ret l Q G) (W : Nat) (argsL rest : List Value) {ix : Nat} {y' : MethodName} {bytes' : ByteArray} {maxL' : Nat} {ret' r : Option FieldType} {ps : List FieldType} {rm : Room} {Q' : Option Value → own_Hs → Prop}
    (hd : decode bytes pc = .ok (.invokestatic ix, 3)) (w1 : (Jvm.Cond.methodLink y.cls ix y').before a0 Z = true) (w2 : (Jvm.Cond.static y').before a0 Z = true) (w3 : (Jvm.Cond.initialized y'.cls).before a0 Z = true) (w4 : (Jvm.Cond.code y' bytes' maxL' ret').before a0 Z = true)
    (hM : own_Con l Z n0 y' bytes' maxL' ret' [] rm argsL.toArray H Q') (hy : y'.cls ≠ "java/lang/invoke/MethodHandle" ∧ y'.cls ≠ "java/lang/invoke/VarHandle") (hfr : rm.frames + 1 ≤ R.frames) (hlo : W + (maxL' + 11) + rm.locals ≤ R.locals) (hds : parseMethodDescriptor y'.desc = some ⟨ps, r⟩) (hln : argsL.length = ps.length)
    (hls : ls.length = maxL) (hst : st = argsL.reverse ++ rest) (hW : (rest.map fun v => v.category).sum ≤ W) (hc : k + rm.cells ≤ R.cells) (hs : n + rm.slots ≤ R.slots) (hq : pc + 3 = q) (K : ∀ v H', Q' v H' → G (k + rm.cells) (n + rm.slots) H' q ls (v.toList ++ rest)) : G k n H pc ls st := by
  subst hq
  obtain ⟨p, e, s, m, args, below, meth, c, rfl, hx, hZ, hby, hml, hown, hnm, hret, hlk⟩ := C
  intro T L X N hH
  obtain ⟨v, vm₁, ⟨T', L', k', n'⟩, -, X', ⟨Lc, hQ, l', c', s'⟩, stp⟩ := Jvm.LawKit.callS X hx (y := y') hown (mvT hZ w1) (mvT hZ w2) (mvT hZ w3) (mvT hZ w4) hy
    (backOf (W := W) (Q := fun v h L => Fr n0 L ∧ ∃ H', own_Hp Z n0 h H' ∧ Q' v H') (hM T.heap hH) hZ w4 w3 hfr hlo) (g := mkF m pc ⟨ls⟩ st) rfl (by rw [hml]; exact hls) (argsL := argsL) (rest := rest) (lenOf hds hln) hst (by show 2 * 0 + _ ≤ _; rw [Nat.mul_zero, Nat.zero_add]; exact hW) (hb hby hd) (fun _ _ => ⟨rfl, rfl, hc, hs⟩)
  dsimp only [Pt.U, Pt.locs, Pt.cells, Pt.slots] at X' l' c' s' stp hQ
  subst l' c' s'
  obtain ⟨N', H', hH', hQ'⟩ := hQ
  obtain ⟨t, o, st2, P⟩ := K v H' hQ' T' _ X' (Fr.app N N') hH'
  exact ⟨t, o, stp _ st2, P⟩
theorem own_Wk.callI (C : own_Wk Z n0 R y bytes maxL ret l Q G) (W : Nat) (a : Addr) (argsL rest : List Value) {ix : Nat} {y' : MethodName} {bytes' : ByteArray} {maxL' : Nat} {r : Option FieldType} {ps : List FieldType} {rm : Room} {Q' : Option Value → own_Hs → Prop}
    (hd : decode bytes pc = .ok (.invokespecial ix, 3)) (w1 : (Jvm.Cond.methodLink y.cls ix y').before a0 Z = true) (w2 : (Jvm.Cond.instanceMethod y').before a0 Z = true) (w3 : (Jvm.Cond.initialized y'.cls).before a0 Z = true) (w4 : (Jvm.Cond.code y' bytes' maxL' none).before a0 Z = true)
    (hM : own_Con l Z n0 y' bytes' maxL' none [] rm (.ref a :: argsL).toArray H Q') (hnm' : y'.name = "<init>") (hy : y'.cls ≠ "java/lang/invoke/MethodHandle" ∧ y'.cls ≠ "java/lang/invoke/VarHandle") (hfr : rm.frames + 1 ≤ R.frames) (hlo : W + (maxL' + 11) + rm.locals ≤ R.locals) (hds : parseMethodDescriptor y'.desc = some ⟨ps, r⟩) (hln : argsL.length = ps.length)
    (hls : ls.length = maxL) (hst : st = argsL.reverse ++ .ref a :: rest) (hW : (rest.map fun v => v.category).sum ≤ W) (hc : k + rm.cells ≤ R.cells) (hs : n + rm.slots ≤ R.slots) (hq : pc + 3 = q) (K : ∀ v H', Q' v H' → G (k + rm.cells) (n + rm.slots) H' q ls (v.toList ++ rest)) : G k n H pc ls st := by
  subst hq
  obtain ⟨p, e, s, m, args, below, meth, c, rfl, hx, hZ, hby, hml, hown, hnm, hret, hlk⟩ := C
  intro T L X N hH
  obtain ⟨v, vm₁, ⟨T', L', k', n'⟩, -, X', ⟨Lc, hQ, l', c', s'⟩, stp⟩ := X.specialBack hx (y := y') hnm' hown (mvT hZ w1) (mvT hZ w2) (mvT hZ w4) hy
    (backOf (W := W) (Q := fun v h L => Fr n0 L ∧ ∃ H', own_Hp Z n0 h H' ∧ Q' v H') (hM T.heap hH) hZ w4 w3 hfr hlo) (g := mkF m pc ⟨ls⟩ st) rfl (by rw [hml]; exact hls) (Steps.refl _) (a := a) (argsL := argsL) (rest := rest) (lenOf hds hln) hst (by show 2 * 0 + _ ≤ _; rw [Nat.mul_zero, Nat.zero_add]; exact hW) (hb hby hd) (fun _ _ => ⟨rfl, rfl, hc, hs⟩)
  dsimp only [Pt.U, Pt.locs, Pt.cells, Pt.slots] at X' l' c' s' stp hQ
  subst l' c' s'
  obtain ⟨N', H', hH', hQ'⟩ := hQ
  obtain ⟨t, o, st2, P⟩ := K v H' hQ' T' _ X' (Fr.app N N') hH'
  exact ⟨t, o, stp.trans st2, P⟩
theorem own_Wk.callV (C : own_Wk Z n0 R y bytes maxL ret l Q G) (W i : Nat) (argsL rest : List Value) {a : Addr} {ix : Nat} {y' : MethodName} {bytes' : ByteArray} {maxL' : Nat} {ret' r : Option FieldType} {ps : List FieldType} {fs : List (String × String × Value)} {rm : Room} {Q' : Option Value → own_Hs → Prop}
    (hd : decode bytes pc = .ok (.invokevirtual ix, 3)) (w1 : (Jvm.Cond.methodLink y.cls ix y').before a0 Z = true) (w2 : (Jvm.Cond.declares y').before a0 Z = true) (w5 : (Jvm.Cond.instanceMethod y').before a0 Z = true) (w6 : (Jvm.Cond.selects y'.cls y' y').before a0 Z = true) (w3 : (Jvm.Cond.initialized y'.cls).before a0 Z = true) (w4 : (Jvm.Cond.code y' bytes' maxL' ret').before a0 Z = true)
    (hM : own_Con l Z n0 y' bytes' maxL' ret' [] rm (.ref a :: argsL).toArray H Q') (hy : y'.cls ≠ "java/lang/invoke/MethodHandle" ∧ y'.cls ≠ "java/lang/invoke/VarHandle") (hfr : rm.frames + 1 ≤ R.frames) (hlo : W + (maxL' + 11) + rm.locals ≤ R.locals) (hds : parseMethodDescriptor y'.desc = some ⟨ps, r⟩) (hln : argsL.length = ps.length)
    (hi : H[i]? = some (a, .inr (y'.cls, fs))) (hls : ls.length = maxL) (hst : st = argsL.reverse ++ .ref a :: rest) (hW : (rest.map fun v => v.category).sum ≤ W) (hc : k + rm.cells ≤ R.cells) (hs : n + rm.slots ≤ R.slots) (hq : pc + 3 = q) (K : ∀ v H', Q' v H' → G (k + rm.cells) (n + rm.slots) H' q ls (v.toList ++ rest)) : G k n H pc ls st := by
  subst hq
  obtain ⟨p, e, s, m, args, below, meth, c, rfl, hx, hZ, hby, hml, hown, hnm, hret, hlk⟩ := C
  intro T L X N hH
  obtain ⟨-, -, hE, -, -⟩ := hH.2.2 i _ _ hi
  obtain ⟨cB, kB, b1, -, b3⟩ := isOf hZ rfl hE
  obtain ⟨v, vm₁, ⟨T', L', k', n'⟩, -, X', ⟨Lc, hQ, l', c', s'⟩, stp⟩ := X.virtualBack hx (y := y') (z := y') hown (mvT hZ w1) (mvT hZ w2) (notFace_of_selects (args := #[]) (mvT hZ w6)) (mvT hZ w6) (mvT hZ w5) hy
    (backOf (W := W) (Q := fun v h L => Fr n0 L ∧ ∃ H', own_Hp Z n0 h H' ∧ Q' v H') (hM T.heap hH) hZ w4 w3 hfr hlo) b1 b3 (g := mkF m pc ⟨ls⟩ st) rfl (by rw [hml]; exact hls) (Steps.refl _) (argsL := argsL) (rest := rest) (lenOf hds hln) hst (by show 2 * 0 + _ ≤ _; rw [Nat.mul_zero, Nat.zero_add]; exact hW) (hb hby hd) (fun _ _ => ⟨rfl, rfl, hc, hs⟩)
  dsimp only [Pt.U, Pt.locs, Pt.cells, Pt.slots] at X' l' c' s' stp hQ
  subst l' c' s'
  obtain ⟨N', H', hH', hQ'⟩ := hQ
  obtain ⟨t, o, st2, P⟩ := K v H' hQ' T' _ X' (Fr.app N N') hH'
  exact ⟨t, o, stp.trans st2, P⟩
theorem own_Wk.callF (C : own_Wk Z n0 R y bytes maxL ret l Q G) (W i : Nat) (argsL rest : List Value) {a : Addr} {ix cnt : Nat} {xi y' : MethodName} {bytes' : ByteArray} {maxL' : Nat} {ret' r : Option FieldType} {ps : List FieldType} {fs : List (String × String × Value)} {rm : Room} {Q' : Option Value → own_Hs → Prop}
    (hd : decode bytes pc = .ok (.invokeinterface ix cnt, 5)) (w1 : (Jvm.Cond.methodLink y.cls ix xi).before a0 Z = true) (w2 : (Jvm.Cond.declares xi).before a0 Z = true) (w7 : ∀ {s : State} {args : Array Value}, Z.Warmed39 s.vm → (Jvm.Cond.interfaceMethod xi.cls xi.cls xi.name xi.desc).before args s = true) (w6 : (Jvm.Cond.selects y'.cls xi y').before a0 Z = true) (w5 : (Jvm.Cond.instanceMethod y').before a0 Z = true)
    (w8 : (Jvm.Cond.publicMethod y').before a0 Z = true) (w9 : (Jvm.Cond.unhidden y'.cls xi.name xi.desc).before a0 Z = true) (w10 : (Jvm.Cond.castable y'.cls xi.cls).before a0 Z = true) (w3 : (Jvm.Cond.initialized y'.cls).before a0 Z = true) (w4 : (Jvm.Cond.code y' bytes' maxL' ret').before a0 Z = true)
    (hM : own_Con l Z n0 y' bytes' maxL' ret' [] rm (.ref a :: argsL).toArray H Q') (hy : xi.cls ≠ "java/lang/invoke/MethodHandle" ∧ xi.cls ≠ "java/lang/invoke/VarHandle") (hfr : rm.frames + 1 ≤ R.frames) (hlo : W + (maxL' + 11) + rm.locals ≤ R.locals) (hds : parseMethodDescriptor xi.desc = some ⟨ps, r⟩) (hln : argsL.length = ps.length)
    (hi : H[i]? = some (a, .inr (y'.cls, fs))) (hls : ls.length = maxL) (hst : st = argsL.reverse ++ .ref a :: rest) (hW : (rest.map fun v => v.category).sum ≤ W) (hc : k + rm.cells ≤ R.cells) (hs : n + rm.slots ≤ R.slots) (hq : pc + 5 = q) (K : ∀ v H', Q' v H' → G (k + rm.cells) (n + rm.slots) H' q ls (v.toList ++ rest)) : G k n H pc ls st := by
  subst hq
  obtain ⟨p, e, s, m, args, below, meth, c, rfl, hx, hZ, hby, hml, hown, hnm, hret, hlk⟩ := C
  intro T L X N hH
  obtain ⟨-, -, hE, -, -⟩ := hH.2.2 i _ _ hi
  obtain ⟨cB, kB, b1, b2, b3⟩ := isOf hZ rfl hE
  obtain ⟨v, vm₁, ⟨T', L', k', n'⟩, -, X', ⟨Lc, hQ, l', c', s'⟩, stp⟩ := X.interfaceBack hx (xi := xi) (y := y') hown (mvT hZ w1) (mvT hZ w2) (w7 hZ) (mvT hZ w6) (mvT hZ w5) (mvT hZ w8) (mvT hZ w9) (mvT hZ w10) hy
    (backOf (W := W) (Q := fun v h L => Fr n0 L ∧ ∃ H', own_Hp Z n0 h H' ∧ Q' v H') (hM T.heap hH) hZ w4 w3 hfr hlo) b1 b2 b3 (g := mkF m pc ⟨ls⟩ st) rfl (by rw [hml]; exact hls) (Steps.refl _) (argsL := argsL) (rest := rest) (lenOf hds hln) hst (by show 2 * 0 + _ ≤ _; rw [Nat.mul_zero, Nat.zero_add]; exact hW) (hb hby hd) (fun _ _ => ⟨rfl, rfl, hc, hs⟩)
  dsimp only [Pt.U, Pt.locs, Pt.cells, Pt.slots] at X' l' c' s' stp hQ
  subst l' c' s'
  obtain ⟨N', H', hH', hQ'⟩ := hQ
  obtain ⟨t, o, st2, P⟩ := K v H' hQ' T' _ X' (Fr.app N N') hH'
  exact ⟨t, o, stp.trans st2, P⟩
end OwnKit
theorem own_pd0 : parseMethodDescriptor "(II)V" = some ⟨[.int, .int], none⟩ := by decide +kernel
theorem own_pd1 : parseMethodDescriptor "(I)I" = some ⟨[.int], some .int⟩ := by decide +kernel
theorem own_pd2 : parseMethodDescriptor "(IIIZIIZ)I" = some ⟨[.int, .int, .int, .boolean, .int, .int, .boolean], some .int⟩ := by decide +kernel
theorem own_pd3 : parseMethodDescriptor "(IIIIZ)Z" = some ⟨[.int, .int, .int, .int, .boolean], some .boolean⟩ := by decide +kernel
theorem own_pd4 : parseMethodDescriptor "()I" = some ⟨[], some .int⟩ := by decide +kernel
theorem own_pd5 : parseMethodDescriptor "(I)V" = some ⟨[.int], none⟩ := by decide +kernel
theorem own_pd6 : parseMethodDescriptor "()V" = some ⟨[], none⟩ := by decide +kernel
theorem own_pd7 : parseMethodDescriptor "(I)Z" = some ⟨[.int], some .boolean⟩ := by decide +kernel
theorem own_pd8 : parseMethodDescriptor "(Lcom/example/terms_to_transitions/termstotransitions/equivalence/RefinablePartition$SplitListener;)V" = some ⟨[(.object "com/example/terms_to_transitions/termstotransitions/equivalence/RefinablePartition$SplitListener")], none⟩ := by decide +kernel
abbrev own_RP : Type := List Int32 × List Int32 × List Int32 × List Int32 × List Int32 × List Int32 × List Int32 × Int32 × Int32
def own_vl (xs : List Int32) : List Value := xs.map Value.int
theorem own_vl_at {xs : List Int32} {i : Nat} (h : i < xs.length) : (own_vl xs)[i]? = some (.int (xs.getD i 0)) := by
  rw [own_vl, List.getElem?_map, List.getD_eq_getElem?_getD, List.getElem?_eq_getElem h]; rfl
theorem own_vl_set (xs : List Int32) (i : Nat) (x : Int32) : (own_vl xs).set i (.int x) = own_vl (xs.set i x) := by
  rw [own_vl, own_vl, List.map_set]
theorem own_vl_len (xs : List Int32) : (own_vl xs).length = xs.length := by rw [own_vl, List.length_map]
theorem own_ti {n : Nat} (h : n < 1000) : (Int32.ofNat n).toInt = n := Int32.toInt_ofNat_of_lt (by omega)
theorem own_nn {n : Nat} (h : n < 1000) : ¬ Int32.ofNat n < 0 := by rw [Int32.lt_iff_toInt_lt, own_ti h]; simp only [Int32.reduceToInt]; omega
theorem own_lt {i n : Nat} (h : i < 1000) (g : n < 1000) : Int32.ofNat i < Int32.ofNat n ↔ i < n := by rw [Int32.lt_iff_toInt_lt, own_ti h, own_ti g]; omega
theorem own_cn {n : Nat} (h : n < 1000) : (Int32.ofNat n).toNatClampNeg = n := by rw [Int32.toNatClampNeg, own_ti h]; rfl
theorem own_ofInt {x : Int32} {n : Nat} (h : x.toInt = n) (hn : n < 1000) : x = Int32.ofNat n := by apply Int32.toInt_inj.mp; rw [own_ti hn, h]
/-- an index that lies in a list -/
abbrev own_ib (x : Int32) (xs : List Int32) : Prop := ¬ x < 0 ∧ x.toNatClampNeg < xs.length
theorem own_ib_set {x : Int32} {xs : List Int32} (h : own_ib x xs) (i : Nat) (v : Int32) : own_ib x (xs.set i v) := ⟨h.1, by rw [List.length_set]; exact h.2⟩
def own_g (xs : List Int32) (x : Int32) : Int32 := xs.getD x.toNatClampNeg 0
def own_s (xs : List Int32) (x v : Int32) : List Int32 := xs.set x.toNatClampNeg v
theorem own_ibs {x : Int32} {xs : List Int32} (h : own_ib x xs) (i v : Int32) : own_ib x (own_s xs i v) := own_ib_set h _ _
theorem own_at' {xs : List Int32} {x : Int32} (h : own_ib x xs) : (own_vl xs)[x.toNatClampNeg]? = some (.int (own_g xs x)) := own_vl_at h.2
theorem own_st' {xs : List Int32} {x v : Int32} : (own_vl xs).set x.toNatClampNeg (.int v) = own_vl (own_s xs x v) := own_vl_set _ _ _
theorem own_ln' {xs : List Int32} {x : Int32} (h : own_ib x xs) : x.toNatClampNeg < (own_vl xs).length := by rw [own_vl_len]; exact h.2
def own_mkS (el lo bl st en me to : List Int32) (tc bc e : Int32) : own_RP :=
  if own_g lo e < own_g me (own_g bl e) then (el, lo, bl, st, en, me, to, tc, bc)
  else (own_s (own_s el (own_g me (own_g bl e)) e) (own_g lo e) (own_g el (own_g me (own_g bl e))), own_s (own_s lo e (own_g me (own_g bl e))) (own_g el (own_g me (own_g bl e))) (own_g lo e), bl, st, en, own_s me (own_g bl e) (own_g me (own_g bl e) + 1),
    (if own_g me (own_g bl e) = own_g st (own_g bl e) then own_s to tc (own_g bl e) else to), (if own_g me (own_g bl e) = own_g st (own_g bl e) then tc + 1 else tc), bc)
def own_mkR (lo bl me : List Int32) (e : Int32) : Int32 := if own_g lo e < own_g me (own_g bl e) then 0 else 1
abbrev own_mkP (el lo bl st me to : List Int32) (tc e : Int32) : Prop :=
  (own_ib e bl ∧ own_ib e lo ∧ own_ib (own_g bl e) me) ∧ (¬ own_g lo e < own_g me (own_g bl e) → own_ib (own_g bl e) st ∧ (own_g me (own_g bl e) = own_g st (own_g bl e) → own_ib tc to) ∧ own_ib (own_g me (own_g bl e)) el ∧ own_ib (own_g lo e) el ∧ own_ib (own_g el (own_g me (own_g bl e))) lo)
theorem d1_0 : decode prog_7_method_9_code 0 = .ok (.aload_n 0, 1) := by decide +kernel
theorem d1_1 : decode prog_7_method_9_code 1 = .ok (.getfield 16, 3) := by decide +kernel
theorem d1_4 : decode prog_7_method_9_code 4 = .ok (.iload_n 1, 1) := by decide +kernel
theorem d1_5 : decode prog_7_method_9_code 5 = .ok (.iaload, 1) := by decide +kernel
theorem d1_6 : decode prog_7_method_9_code 6 = .ok (.istore_n 2, 1) := by decide +kernel
theorem d1_7 : decode prog_7_method_9_code 7 = .ok (.aload_n 0, 1) := by decide +kernel
theorem d1_8 : decode prog_7_method_9_code 8 = .ok (.getfield 13, 3) := by decide +kernel
theorem d1_11 : decode prog_7_method_9_code 11 = .ok (.iload_n 1, 1) := by decide +kernel
theorem d1_12 : decode prog_7_method_9_code 12 = .ok (.iaload, 1) := by decide +kernel
theorem d1_13 : decode prog_7_method_9_code 13 = .ok (.istore_n 3, 1) := by decide +kernel
theorem d1_14 : decode prog_7_method_9_code 14 = .ok (.aload_n 0, 1) := by decide +kernel
theorem d1_15 : decode prog_7_method_9_code 15 = .ok (.getfield 25, 3) := by decide +kernel
theorem d1_18 : decode prog_7_method_9_code 18 = .ok (.iload_n 2, 1) := by decide +kernel
theorem d1_19 : decode prog_7_method_9_code 19 = .ok (.iaload, 1) := by decide +kernel
theorem d1_20 : decode prog_7_method_9_code 20 = .ok (.istore 4, 2) := by decide +kernel
theorem d1_22 : decode prog_7_method_9_code 22 = .ok (.iload_n 3, 1) := by decide +kernel
theorem d1_23 : decode prog_7_method_9_code 23 = .ok (.iload 4, 2) := by decide +kernel
theorem d1_25 : decode prog_7_method_9_code 25 = .ok (.if_icmp .ge 5, 3) := by decide +kernel
theorem d1_28 : decode prog_7_method_9_code 28 = .ok (.iconst 0, 1) := by decide +kernel
theorem d1_29 : decode prog_7_method_9_code 29 = .ok (.ireturn, 1) := by decide +kernel
theorem d1_30 : decode prog_7_method_9_code 30 = .ok (.iload 4, 2) := by decide +kernel
theorem d1_32 : decode prog_7_method_9_code 32 = .ok (.aload_n 0, 1) := by decide +kernel
theorem d1_33 : decode prog_7_method_9_code 33 = .ok (.getfield 19, 3) := by decide +kernel
theorem d1_36 : decode prog_7_method_9_code 36 = .ok (.iload_n 2, 1) := by decide +kernel
theorem d1_37 : decode prog_7_method_9_code 37 = .ok (.iaload, 1) := by decide +kernel
theorem d1_38 : decode prog_7_method_9_code 38 = .ok (.if_icmp .ne 23, 3) := by decide +kernel
theorem d1_41 : decode prog_7_method_9_code 41 = .ok (.aload_n 0, 1) := by decide +kernel
theorem d1_42 : decode prog_7_method_9_code 42 = .ok (.getfield 28, 3) := by decide +kernel
theorem d1_45 : decode prog_7_method_9_code 45 = .ok (.aload_n 0, 1) := by decide +kernel
theorem d1_46 : decode prog_7_method_9_code 46 = .ok (.getfield 35, 3) := by decide +kernel
theorem d1_49 : decode prog_7_method_9_code 49 = .ok (.iload_n 2, 1) := by decide +kernel
theorem d1_50 : decode prog_7_method_9_code 50 = .ok (.iastore, 1) := by decide +kernel
theorem d1_51 : decode prog_7_method_9_code 51 = .ok (.aload_n 0, 1) := by decide +kernel
theorem d1_52 : decode prog_7_method_9_code 52 = .ok (.dup, 1) := by decide +kernel
theorem d1_53 : decode prog_7_method_9_code 53 = .ok (.getfield 35, 3) := by decide +kernel
theorem d1_56 : decode prog_7_method_9_code 56 = .ok (.iconst 1, 1) := by decide +kernel
theorem d1_57 : decode prog_7_method_9_code 57 = .ok (.iadd, 1) := by decide +kernel
theorem d1_58 : decode prog_7_method_9_code 58 = .ok (.putfield 35, 3) := by decide +kernel
theorem d1_61 : decode prog_7_method_9_code 61 = .ok (.aload_n 0, 1) := by decide +kernel
theorem d1_62 : decode prog_7_method_9_code 62 = .ok (.getfield 7, 3) := by decide +kernel
theorem d1_65 : decode prog_7_method_9_code 65 = .ok (.iload 4, 2) := by decide +kernel
theorem d1_67 : decode prog_7_method_9_code 67 = .ok (.iaload, 1) := by decide +kernel
theorem d1_68 : decode prog_7_method_9_code 68 = .ok (.istore 5, 2) := by decide +kernel
theorem d1_70 : decode prog_7_method_9_code 70 = .ok (.aload_n 0, 1) := by decide +kernel
theorem d1_71 : decode prog_7_method_9_code 71 = .ok (.getfield 7, 3) := by decide +kernel
theorem d1_74 : decode prog_7_method_9_code 74 = .ok (.iload 4, 2) := by decide +kernel
theorem d1_76 : decode prog_7_method_9_code 76 = .ok (.iload_n 1, 1) := by decide +kernel
theorem d1_77 : decode prog_7_method_9_code 77 = .ok (.iastore, 1) := by decide +kernel
theorem d1_78 : decode prog_7_method_9_code 78 = .ok (.aload_n 0, 1) := by decide +kernel
theorem d1_79 : decode prog_7_method_9_code 79 = .ok (.getfield 13, 3) := by decide +kernel
theorem d1_82 : decode prog_7_method_9_code 82 = .ok (.iload_n 1, 1) := by decide +kernel
theorem d1_83 : decode prog_7_method_9_code 83 = .ok (.iload 4, 2) := by decide +kernel
theorem d1_85 : decode prog_7_method_9_code 85 = .ok (.iastore, 1) := by decide +kernel
theorem d1_86 : decode prog_7_method_9_code 86 = .ok (.aload_n 0, 1) := by decide +kernel
theorem d1_87 : decode prog_7_method_9_code 87 = .ok (.getfield 7, 3) := by decide +kernel
theorem d1_90 : decode prog_7_method_9_code 90 = .ok (.iload_n 3, 1) := by decide +kernel
theorem d1_91 : decode prog_7_method_9_code 91 = .ok (.iload 5, 2) := by decide +kernel
theorem d1_93 : decode prog_7_method_9_code 93 = .ok (.iastore, 1) := by decide +kernel
theorem d1_94 : decode prog_7_method_9_code 94 = .ok (.aload_n 0, 1) := by decide +kernel
theorem d1_95 : decode prog_7_method_9_code 95 = .ok (.getfield 13, 3) := by decide +kernel
theorem d1_98 : decode prog_7_method_9_code 98 = .ok (.iload 5, 2) := by decide +kernel
theorem d1_100 : decode prog_7_method_9_code 100 = .ok (.iload_n 3, 1) := by decide +kernel
theorem d1_101 : decode prog_7_method_9_code 101 = .ok (.iastore, 1) := by decide +kernel
theorem d1_102 : decode prog_7_method_9_code 102 = .ok (.aload_n 0, 1) := by decide +kernel
theorem d1_103 : decode prog_7_method_9_code 103 = .ok (.getfield 25, 3) := by decide +kernel
theorem d1_106 : decode prog_7_method_9_code 106 = .ok (.iload_n 2, 1) := by decide +kernel
theorem d1_107 : decode prog_7_method_9_code 107 = .ok (.iload 4, 2) := by decide +kernel
theorem d1_109 : decode prog_7_method_9_code 109 = .ok (.iconst 1, 1) := by decide +kernel
theorem d1_110 : decode prog_7_method_9_code 110 = .ok (.iadd, 1) := by decide +kernel
theorem d1_111 : decode prog_7_method_9_code 111 = .ok (.iastore, 1) := by decide +kernel
theorem d1_112 : decode prog_7_method_9_code 112 = .ok (.iconst 1, 1) := by decide +kernel
theorem d1_113 : decode prog_7_method_9_code 113 = .ok (.ireturn, 1) := by decide +kernel
theorem own_pn1 : plainFor (⟨"com/example/terms_to_transitions/termstotransitions/equivalence/RefinablePartition", "mark", "(I)Z"⟩ : MethodName) = true := by first | exact plainFor_of_name (by first | (simp [plainName, overriddenIn]; done) | decide +kernel) | decide +kernel
set_option maxHeartbeats 4000000 in
theorem own_ef1 (m : MethodId) (x0 : Addr) (x1 : Int32) : entryFrame m #[.ref x0, .int x1] 6 = mkF m 0 #[.val (.ref x0), .val (.int x1), .unset, .unset, .unset, .unset] [] := by first | (simp [entryFrame, mkF, argsToLocals, Value.category, maxLocals]; done) | rfl
set_option maxRecDepth 65536 in
set_option maxHeartbeats 40000000 in
theorem own_c1 (l : Launch) (Z : State) (a0 : Array Value) (n0 : Nat) (hw : ∀ d ∈ tables_1, d.before a0 Z = true) (ws : List Jvm.Cond) (o r0 r1 r2 r3 r4 r5 r6 : Addr) (Hr : own_Hs) (el lo bl st en me to : List Int32) (tc bc : Int32) (e : Int32) (ok : own_mkP el lo bl st me to tc e) :
    own_Con l Z n0 (⟨"com/example/terms_to_transitions/termstotransitions/equivalence/RefinablePartition", "mark", "(I)Z"⟩ : MethodName) prog_7_method_9_code 6 (some .boolean) ws ({ frames := 0, cells := 0, slots := 0, locals := 0 } : Room) #[.ref o, .int e] ((o, .inr ("com/example/terms_to_transitions/termstotransitions/equivalence/RefinablePartition", [("elements", "[I", .ref r0), ("locations", "[I", .ref r1), ("blocks", "[I", .ref r2), ("starts", "[I", .ref r3), ("ends", "[I", .ref r4), ("markedEnds", "[I", .ref r5), ("touched", "[I", .ref r6), ("blockCount", "I", .int bc), ("touchedCount", "I", .int tc)])) :: (r0, .inl (.int, (own_vl el))) :: (r1, .inl (.int, (own_vl lo))) :: (r2, .inl (.int, (own_vl bl))) :: (r3, .inl (.int, (own_vl st))) :: (r4, .inl (.int, (own_vl en))) :: (r5, .inl (.int, (own_vl me))) :: (r6, .inl (.int, (own_vl to))) :: Hr) (fun v H' => v = some (.int (own_mkR lo bl me e)) ∧ H' = ((o, .inr ("com/example/terms_to_transitions/termstotransitions/equivalence/RefinablePartition", [("elements", "[I", .ref r0), ("locations", "[I", .ref r1), ("blocks", "[I", .ref r2), ("starts", "[I", .ref r3), ("ends", "[I", .ref r4), ("markedEnds", "[I", .ref r5), ("touched", "[I", .ref r6), ("blockCount", "I", .int ((own_mkS el lo bl st en me to tc bc e).2.2.2.2.2.2.2.2)), ("touchedCount", "I", .int ((own_mkS el lo bl st en me to tc bc e).2.2.2.2.2.2.2.1))])) :: (r0, .inl (.int, (own_vl (own_mkS el lo bl st en me to tc bc e).1))) :: (r1, .inl (.int, (own_vl (own_mkS el lo bl st en me to tc bc e).2.1))) :: (r2, .inl (.int, (own_vl (own_mkS el lo bl st en me to tc bc e).2.2.1))) :: (r3, .inl (.int, (own_vl (own_mkS el lo bl st en me to tc bc e).2.2.2.1))) :: (r4, .inl (.int, (own_vl (own_mkS el lo bl st en me to tc bc e).2.2.2.2.1))) :: (r5, .inl (.int, (own_vl (own_mkS el lo bl st en me to tc bc e).2.2.2.2.2.1))) :: (r6, .inl (.int, (own_vl (own_mkS el lo bl st en me to tc bc e).2.2.2.2.2.2.1))) :: Hr)) := by
  refine own_con own_pn1 (fun m_ => own_ef1 m_ o e) ?_
  intro G C
  refine C.aloadN (q := 1) d1_0 rfl rfl rfl ?_
  refine C.getf (q := 4) 0 2 (v := .ref r2) d1_1 (hw _ (List.mem_of_getElem? (i := 15) rfl)) rfl rfl rfl ?_
  refine C.iloadN (q := 5) d1_4 rfl rfl ?_
  refine C.iaload (q := 6) 3 (v := .int (own_g bl e)) d1_5 rfl ok.1.1.1 (own_at' (ok.1.1)) rfl ?_
  refine C.istoreN (q := 7) (ls' := [.val (.ref o), .val (.int e), .val (.int (own_g bl e)), .unset, .unset, .unset]) d1_6 rfl rfl ?_
  refine C.aloadN (q := 8) d1_7 rfl rfl rfl ?_
  refine C.getf (q := 11) 0 1 (v := .ref r1) d1_8 (hw _ (List.mem_of_getElem? (i := 13) rfl)) rfl rfl rfl ?_
  refine C.iloadN (q := 12) d1_11 rfl rfl ?_
  refine C.iaload (q := 13) 2 (v := .int (own_g lo e)) d1_12 rfl ok.1.2.1.1 (own_at' (ok.1.2.1)) rfl ?_
  refine C.istoreN (q := 14) (ls' := [.val (.ref o), .val (.int e), .val (.int (own_g bl e)), .val (.int (own_g lo e)), .unset, .unset]) d1_13 rfl rfl ?_
  refine C.aloadN (q := 15) d1_14 rfl rfl rfl ?_
  refine C.getf (q := 18) 0 5 (v := .ref r5) d1_15 (hw _ (List.mem_of_getElem? (i := 21) rfl)) rfl rfl rfl ?_
  refine C.iloadN (q := 19) d1_18 rfl rfl ?_
  refine C.iaload (q := 20) 6 (v := .int (own_g me (own_g bl e))) d1_19 rfl ok.1.2.2.1 (own_at' (ok.1.2.2)) rfl ?_
  refine C.istore (q := 22) (ls' := [.val (.ref o), .val (.int e), .val (.int (own_g bl e)), .val (.int (own_g lo e)), .val (.int (own_g me (own_g bl e))), .unset]) d1_20 rfl rfl ?_
  refine C.iloadN (q := 23) d1_22 rfl rfl ?_
  refine C.iload (q := 25) d1_23 rfl rfl ?_
  refine C.icmpGe (q := 30) (q' := 28) d1_25 (by decide) (by decide) rfl (fun h25 => ?_) (fun h25 => ?_)
  · refine C.iconst (q := 29) (z := (0 : Int32)) d1_28 rfl rfl ?_
    exact C.retB (by simp) d1_29 (by decide) (by decide) ⟨by first | (rw [own_mkR, if_pos h25]; rfl) | (rw [own_mkR, if_neg h25]; rfl), by first | (simp only [own_mkS, if_pos h25]; done) | (simp only [own_mkS, if_neg h25, if_pos h38]; done) | (simp only [own_mkS, if_neg h25, if_neg h38]; done)⟩
  · refine C.iload (q := 32) d1_30 rfl rfl ?_
    refine C.aloadN (q := 33) d1_32 rfl rfl rfl ?_
    refine C.getf (q := 36) 0 3 (v := .ref r3) d1_33 (hw _ (List.mem_of_getElem? (i := 17) rfl)) rfl rfl rfl ?_
    refine C.iloadN (q := 37) d1_36 rfl rfl ?_
    refine C.iaload (q := 38) 4 (v := .int (own_g st (own_g bl e))) d1_37 rfl (ok.2 h25).1.1 (own_at' ((ok.2 h25).1)) rfl ?_
    refine C.icmpNe (q := 61) (q' := 41) d1_38 (by decide) (by decide) rfl (fun h38 => ?_) (fun h38 => ?_)
    · refine C.aloadN (q := 42) d1_41 rfl rfl rfl ?_
      refine C.getf (q := 45) 0 6 (v := .ref r6) d1_42 (hw _ (List.mem_of_getElem? (i := 23) rfl)) rfl rfl rfl ?_
      refine C.aloadN (q := 46) d1_45 rfl rfl rfl ?_
      refine C.getf (q := 49) 0 8 (v := .int tc) d1_46 (hw _ (List.mem_of_getElem? (i := 39) rfl)) rfl rfl rfl ?_
      refine C.iloadN (q := 50) d1_49 rfl rfl ?_
      refine C.iastore (q := 51) 7 (H' := ((o, .inr ("com/example/terms_to_transitions/termstotransitions/equivalence/RefinablePartition", [("elements", "[I", .ref r0), ("locations", "[I", .ref r1), ("blocks", "[I", .ref r2), ("starts", "[I", .ref r3), ("ends", "[I", .ref r4), ("markedEnds", "[I", .ref r5), ("touched", "[I", .ref r6), ("blockCount", "I", .int bc), ("touchedCount", "I", .int tc)])) :: (r0, .inl (.int, (own_vl el))) :: (r1, .inl (.int, (own_vl lo))) :: (r2, .inl (.int, (own_vl bl))) :: (r3, .inl (.int, (own_vl st))) :: (r4, .inl (.int, (own_vl en))) :: (r5, .inl (.int, (own_vl me))) :: (r6, .inl (.int, (own_vl (own_s to tc (own_g bl e))))) :: Hr)) d1_50 rfl ((ok.2 h25).2.1 h38).1 (own_ln' (((ok.2 h25).2.1 h38))) (by rw [own_st']; rfl) rfl ?_
      refine C.aloadN (q := 52) d1_51 rfl rfl rfl ?_
      refine C.dup (q := 53) d1_52 rfl rfl ?_
      refine C.getf (q := 56) 0 8 (v := .int tc) d1_53 (hw _ (List.mem_of_getElem? (i := 39) rfl)) rfl rfl rfl ?_
      refine C.iconst (q := 57) (z := (1 : Int32)) d1_56 rfl rfl ?_
      refine C.iadd (q := 58) d1_57 rfl ?_
      refine C.putf (q := 61) 0 8 (ty := .int) (H' := ((o, .inr ("com/example/terms_to_transitions/termstotransitions/equivalence/RefinablePartition", [("elements", "[I", .ref r0), ("locations", "[I", .ref r1), ("blocks", "[I", .ref r2), ("starts", "[I", .ref r3), ("ends", "[I", .ref r4), ("markedEnds", "[I", .ref r5), ("touched", "[I", .ref r6), ("blockCount", "I", .int bc), ("touchedCount", "I", .int (tc + (1 : Int32)))])) :: (r0, .inl (.int, (own_vl el))) :: (r1, .inl (.int, (own_vl lo))) :: (r2, .inl (.int, (own_vl bl))) :: (r3, .inl (.int, (own_vl st))) :: (r4, .inl (.int, (own_vl en))) :: (r5, .inl (.int, (own_vl me))) :: (r6, .inl (.int, (own_vl (own_s to tc (own_g bl e))))) :: Hr)) d1_58 (hw _ (List.mem_of_getElem? (i := 39) rfl)) (Or.inl (hw _ (List.mem_of_getElem? (i := 40) rfl))) (hw _ (List.mem_of_getElem? (i := 2) rfl)) rfl rfl (by decide) rfl rfl rfl rfl ?_
      refine C.aloadN (q := 62) d1_61 rfl rfl rfl ?_
      refine C.getf (q := 65) 0 0 (v := .ref r0) d1_62 (hw _ (List.mem_of_getElem? (i := 11) rfl)) rfl rfl rfl ?_
      refine C.iload (q := 67) d1_65 rfl rfl ?_
      refine C.iaload (q := 68) 1 (v := .int (own_g el (own_g me (own_g bl e)))) d1_67 rfl (ok.2 h25).2.2.1.1 (own_at' ((ok.2 h25).2.2.1)) rfl ?_
      refine C.istore (q := 70) (ls' := [.val (.ref o), .val (.int e), .val (.int (own_g bl e)), .val (.int (own_g lo e)), .val (.int (own_g me (own_g bl e))), .val (.int (own_g el (own_g me (own_g bl e))))]) d1_68 rfl rfl ?_
      refine C.aloadN (q := 71) d1_70 rfl rfl rfl ?_
      refine C.getf (q := 74) 0 0 (v := .ref r0) d1_71 (hw _ (List.mem_of_getElem? (i := 11) rfl)) rfl rfl rfl ?_
      refine C.iload (q := 76) d1_74 rfl rfl ?_
      refine C.iloadN (q := 77) d1_76 rfl rfl ?_
      refine C.iastore (q := 78) 1 (H' := ((o, .inr ("com/example/terms_to_transitions/termstotransitions/equivalence/RefinablePartition", [("elements", "[I", .ref r0), ("locations", "[I", .ref r1), ("blocks", "[I", .ref r2), ("starts", "[I", .ref r3), ("ends", "[I", .ref r4), ("markedEnds", "[I", .ref r5), ("touched", "[I", .ref r6), ("blockCount", "I", .int bc), ("touchedCount", "I", .int (tc + (1 : Int32)))])) :: (r0, .inl (.int, (own_vl (own_s el (own_g me (own_g bl e)) e)))) :: (r1, .inl (.int, (own_vl lo))) :: (r2, .inl (.int, (own_vl bl))) :: (r3, .inl (.int, (own_vl st))) :: (r4, .inl (.int, (own_vl en))) :: (r5, .inl (.int, (own_vl me))) :: (r6, .inl (.int, (own_vl (own_s to tc (own_g bl e))))) :: Hr)) d1_77 rfl (ok.2 h25).2.2.1.1 (own_ln' ((ok.2 h25).2.2.1)) (by rw [own_st']; rfl) rfl ?_
      refine C.aloadN (q := 79) d1_78 rfl rfl rfl ?_
      refine C.getf (q := 82) 0 1 (v := .ref r1) d1_79 (hw _ (List.mem_of_getElem? (i := 13) rfl)) rfl rfl rfl ?_
      refine C.iloadN (q := 83) d1_82 rfl rfl ?_
      refine C.iload (q := 85) d1_83 rfl rfl ?_
      refine C.iastore (q := 86) 2 (H' := ((o, .inr ("com/example/terms_to_transitions/termstotransitions/equivalence/RefinablePartition", [("elements", "[I", .ref r0), ("locations", "[I", .ref r1), ("blocks", "[I", .ref r2), ("starts", "[I", .ref r3), ("ends", "[I", .ref r4), ("markedEnds", "[I", .ref r5), ("touched", "[I", .ref r6), ("blockCount", "I", .int bc), ("touchedCount", "I", .int (tc + (1 : Int32)))])) :: (r0, .inl (.int, (own_vl (own_s el (own_g me (own_g bl e)) e)))) :: (r1, .inl (.int, (own_vl (own_s lo e (own_g me (own_g bl e)))))) :: (r2, .inl (.int, (own_vl bl))) :: (r3, .inl (.int, (own_vl st))) :: (r4, .inl (.int, (own_vl en))) :: (r5, .inl (.int, (own_vl me))) :: (r6, .inl (.int, (own_vl (own_s to tc (own_g bl e))))) :: Hr)) d1_85 rfl ok.1.2.1.1 (own_ln' (ok.1.2.1)) (by rw [own_st']; rfl) rfl ?_
      refine C.aloadN (q := 87) d1_86 rfl rfl rfl ?_
      refine C.getf (q := 90) 0 0 (v := .ref r0) d1_87 (hw _ (List.mem_of_getElem? (i := 11) rfl)) rfl rfl rfl ?_
      refine C.iloadN (q := 91) d1_90 rfl rfl ?_
      refine C.iload (q := 93) d1_91 rfl rfl ?_
      refine C.iastore (q := 94) 1 (H' := ((o, .inr ("com/example/terms_to_transitions/termstotransitions/equivalence/RefinablePartition", [("elements", "[I", .ref r0), ("locations", "[I", .ref r1), ("blocks", "[I", .ref r2), ("starts", "[I", .ref r3), ("ends", "[I", .ref r4), ("markedEnds", "[I", .ref r5), ("touched", "[I", .ref r6), ("blockCount", "I", .int bc), ("touchedCount", "I", .int (tc + (1 : Int32)))])) :: (r0, .inl (.int, (own_vl (own_s (own_s el (own_g me (own_g bl e)) e) (own_g lo e) (own_g el (own_g me (own_g bl e))))))) :: (r1, .inl (.int, (own_vl (own_s lo e (own_g me (own_g bl e)))))) :: (r2, .inl (.int, (own_vl bl))) :: (r3, .inl (.int, (own_vl st))) :: (r4, .inl (.int, (own_vl en))) :: (r5, .inl (.int, (own_vl me))) :: (r6, .inl (.int, (own_vl (own_s to tc (own_g bl e))))) :: Hr)) d1_93 rfl (own_ibs (ok.2 h25).2.2.2.1 (own_g me (own_g bl e)) e).1 (own_ln' ((own_ibs (ok.2 h25).2.2.2.1 (own_g me (own_g bl e)) e))) (by rw [own_st']; rfl) rfl ?_
      refine C.aloadN (q := 95) d1_94 rfl rfl rfl ?_
      refine C.getf (q := 98) 0 1 (v := .ref r1) d1_95 (hw _ (List.mem_of_getElem? (i := 13) rfl)) rfl rfl rfl ?_
      refine C.iload (q := 100) d1_98 rfl rfl ?_
      refine C.iloadN (q := 101) d1_100 rfl rfl ?_
      refine C.iastore (q := 102) 2 (H' := ((o, .inr ("com/example/terms_to_transitions/termstotransitions/equivalence/RefinablePartition", [("elements", "[I", .ref r0), ("locations", "[I", .ref r1), ("blocks", "[I", .ref r2), ("starts", "[I", .ref r3), ("ends", "[I", .ref r4), ("markedEnds", "[I", .ref r5), ("touched", "[I", .ref r6), ("blockCount", "I", .int bc), ("touchedCount", "I", .int (tc + (1 : Int32)))])) :: (r0, .inl (.int, (own_vl (own_s (own_s el (own_g me (own_g bl e)) e) (own_g lo e) (own_g el (own_g me (own_g bl e))))))) :: (r1, .inl (.int, (own_vl (own_s (own_s lo e (own_g me (own_g bl e))) (own_g el (own_g me (own_g bl e))) (own_g lo e))))) :: (r2, .inl (.int, (own_vl bl))) :: (r3, .inl (.int, (own_vl st))) :: (r4, .inl (.int, (own_vl en))) :: (r5, .inl (.int, (own_vl me))) :: (r6, .inl (.int, (own_vl (own_s to tc (own_g bl e))))) :: Hr)) d1_101 rfl (own_ibs (ok.2 h25).2.2.2.2 e (own_g me (own_g bl e))).1 (own_ln' ((own_ibs (ok.2 h25).2.2.2.2 e (own_g me (own_g bl e))))) (by rw [own_st']; rfl) rfl ?_
      refine C.aloadN (q := 103) d1_102 rfl rfl rfl ?_
      refine C.getf (q := 106) 0 5 (v := .ref r5) d1_103 (hw _ (List.mem_of_getElem? (i := 21) rfl)) rfl rfl rfl ?_
      refine C.iloadN (q := 107) d1_106 rfl rfl ?_
      refine C.iload (q := 109) d1_107 rfl rfl ?_
      refine C.iconst (q := 110) (z := (1 : Int32)) d1_109 rfl rfl ?_
      refine C.iadd (q := 111) d1_110 rfl ?_
      refine C.iastore (q := 112) 6 (H' := ((o, .inr ("com/example/terms_to_transitions/termstotransitions/equivalence/RefinablePartition", [("elements", "[I", .ref r0), ("locations", "[I", .ref r1), ("blocks", "[I", .ref r2), ("starts", "[I", .ref r3), ("ends", "[I", .ref r4), ("markedEnds", "[I", .ref r5), ("touched", "[I", .ref r6), ("blockCount", "I", .int bc), ("touchedCount", "I", .int (tc + (1 : Int32)))])) :: (r0, .inl (.int, (own_vl (own_s (own_s el (own_g me (own_g bl e)) e) (own_g lo e) (own_g el (own_g me (own_g bl e))))))) :: (r1, .inl (.int, (own_vl (own_s (own_s lo e (own_g me (own_g bl e))) (own_g el (own_g me (own_g bl e))) (own_g lo e))))) :: (r2, .inl (.int, (own_vl bl))) :: (r3, .inl (.int, (own_vl st))) :: (r4, .inl (.int, (own_vl en))) :: (r5, .inl (.int, (own_vl (own_s me (own_g bl e) ((own_g me (own_g bl e)) + (1 : Int32)))))) :: (r6, .inl (.int, (own_vl (own_s to tc (own_g bl e))))) :: Hr)) d1_111 rfl ok.1.2.2.1 (own_ln' (ok.1.2.2)) (by rw [own_st']; rfl) rfl ?_
      refine C.iconst (q := 113) (z := (1 : Int32)) d1_112 rfl rfl ?_
      exact C.retB (by simp) d1_113 (by decide) (by decide) ⟨by first | (rw [own_mkR, if_pos h25]; rfl) | (rw [own_mkR, if_neg h25]; rfl), by first | (simp only [own_mkS, if_pos h25]; done) | (simp only [own_mkS, if_neg h25, if_pos h38]; done) | (simp only [own_mkS, if_neg h25, if_neg h38]; done)⟩
    · refine C.aloadN (q := 62) d1_61 rfl rfl rfl ?_
      refine C.getf (q := 65) 0 0 (v := .ref r0) d1_62 (hw _ (List.mem_of_getElem? (i := 11) rfl)) rfl rfl rfl ?_
      refine C.iload (q := 67) d1_65 rfl rfl ?_
      refine C.iaload (q := 68) 1 (v := .int (own_g el (own_g me (own_g bl e)))) d1_67 rfl (ok.2 h25).2.2.1.1 (own_at' ((ok.2 h25).2.2.1)) rfl ?_
      refine C.istore (q := 70) (ls' := [.val (.ref o), .val (.int e), .val (.int (own_g bl e)), .val (.int (own_g lo e)), .val (.int (own_g me (own_g bl e))), .val (.int (own_g el (own_g me (own_g bl e))))]) d1_68 rfl rfl ?_
      refine C.aloadN (q := 71) d1_70 rfl rfl rfl ?_
      refine C.getf (q := 74) 0 0 (v := .ref r0) d1_71 (hw _ (List.mem_of_getElem? (i := 11) rfl)) rfl rfl rfl ?_
      refine C.iload (q := 76) d1_74 rfl rfl ?_
      refine C.iloadN (q := 77) d1_76 rfl rfl ?_
      refine C.iastore (q := 78) 1 (H' := ((o, .inr ("com/example/terms_to_transitions/termstotransitions/equivalence/RefinablePartition", [("elements", "[I", .ref r0), ("locations", "[I", .ref r1), ("blocks", "[I", .ref r2), ("starts", "[I", .ref r3), ("ends", "[I", .ref r4), ("markedEnds", "[I", .ref r5), ("touched", "[I", .ref r6), ("blockCount", "I", .int bc), ("touchedCount", "I", .int tc)])) :: (r0, .inl (.int, (own_vl (own_s el (own_g me (own_g bl e)) e)))) :: (r1, .inl (.int, (own_vl lo))) :: (r2, .inl (.int, (own_vl bl))) :: (r3, .inl (.int, (own_vl st))) :: (r4, .inl (.int, (own_vl en))) :: (r5, .inl (.int, (own_vl me))) :: (r6, .inl (.int, (own_vl to))) :: Hr)) d1_77 rfl (ok.2 h25).2.2.1.1 (own_ln' ((ok.2 h25).2.2.1)) (by rw [own_st']; rfl) rfl ?_
      refine C.aloadN (q := 79) d1_78 rfl rfl rfl ?_
      refine C.getf (q := 82) 0 1 (v := .ref r1) d1_79 (hw _ (List.mem_of_getElem? (i := 13) rfl)) rfl rfl rfl ?_
      refine C.iloadN (q := 83) d1_82 rfl rfl ?_
      refine C.iload (q := 85) d1_83 rfl rfl ?_
      refine C.iastore (q := 86) 2 (H' := ((o, .inr ("com/example/terms_to_transitions/termstotransitions/equivalence/RefinablePartition", [("elements", "[I", .ref r0), ("locations", "[I", .ref r1), ("blocks", "[I", .ref r2), ("starts", "[I", .ref r3), ("ends", "[I", .ref r4), ("markedEnds", "[I", .ref r5), ("touched", "[I", .ref r6), ("blockCount", "I", .int bc), ("touchedCount", "I", .int tc)])) :: (r0, .inl (.int, (own_vl (own_s el (own_g me (own_g bl e)) e)))) :: (r1, .inl (.int, (own_vl (own_s lo e (own_g me (own_g bl e)))))) :: (r2, .inl (.int, (own_vl bl))) :: (r3, .inl (.int, (own_vl st))) :: (r4, .inl (.int, (own_vl en))) :: (r5, .inl (.int, (own_vl me))) :: (r6, .inl (.int, (own_vl to))) :: Hr)) d1_85 rfl ok.1.2.1.1 (own_ln' (ok.1.2.1)) (by rw [own_st']; rfl) rfl ?_
      refine C.aloadN (q := 87) d1_86 rfl rfl rfl ?_
      refine C.getf (q := 90) 0 0 (v := .ref r0) d1_87 (hw _ (List.mem_of_getElem? (i := 11) rfl)) rfl rfl rfl ?_
      refine C.iloadN (q := 91) d1_90 rfl rfl ?_
      refine C.iload (q := 93) d1_91 rfl rfl ?_
      refine C.iastore (q := 94) 1 (H' := ((o, .inr ("com/example/terms_to_transitions/termstotransitions/equivalence/RefinablePartition", [("elements", "[I", .ref r0), ("locations", "[I", .ref r1), ("blocks", "[I", .ref r2), ("starts", "[I", .ref r3), ("ends", "[I", .ref r4), ("markedEnds", "[I", .ref r5), ("touched", "[I", .ref r6), ("blockCount", "I", .int bc), ("touchedCount", "I", .int tc)])) :: (r0, .inl (.int, (own_vl (own_s (own_s el (own_g me (own_g bl e)) e) (own_g lo e) (own_g el (own_g me (own_g bl e))))))) :: (r1, .inl (.int, (own_vl (own_s lo e (own_g me (own_g bl e)))))) :: (r2, .inl (.int, (own_vl bl))) :: (r3, .inl (.int, (own_vl st))) :: (r4, .inl (.int, (own_vl en))) :: (r5, .inl (.int, (own_vl me))) :: (r6, .inl (.int, (own_vl to))) :: Hr)) d1_93 rfl (own_ibs (ok.2 h25).2.2.2.1 (own_g me (own_g bl e)) e).1 (own_ln' ((own_ibs (ok.2 h25).2.2.2.1 (own_g me (own_g bl e)) e))) (by rw [own_st']; rfl) rfl ?_
      refine C.aloadN (q := 95) d1_94 rfl rfl rfl ?_
      refine C.getf (q := 98) 0 1 (v := .ref r1) d1_95 (hw _ (List.mem_of_getElem? (i := 13) rfl)) rfl rfl rfl ?_
      refine C.iload (q := 100) d1_98 rfl rfl ?_
      refine C.iloadN (q := 101) d1_100 rfl rfl ?_
      refine C.iastore (q := 102) 2 (H' := ((o, .inr ("com/example/terms_to_transitions/termstotransitions/equivalence/RefinablePartition", [("elements", "[I", .ref r0), ("locations", "[I", .ref r1), ("blocks", "[I", .ref r2), ("starts", "[I", .ref r3), ("ends", "[I", .ref r4), ("markedEnds", "[I", .ref r5), ("touched", "[I", .ref r6), ("blockCount", "I", .int bc), ("touchedCount", "I", .int tc)])) :: (r0, .inl (.int, (own_vl (own_s (own_s el (own_g me (own_g bl e)) e) (own_g lo e) (own_g el (own_g me (own_g bl e))))))) :: (r1, .inl (.int, (own_vl (own_s (own_s lo e (own_g me (own_g bl e))) (own_g el (own_g me (own_g bl e))) (own_g lo e))))) :: (r2, .inl (.int, (own_vl bl))) :: (r3, .inl (.int, (own_vl st))) :: (r4, .inl (.int, (own_vl en))) :: (r5, .inl (.int, (own_vl me))) :: (r6, .inl (.int, (own_vl to))) :: Hr)) d1_101 rfl (own_ibs (ok.2 h25).2.2.2.2 e (own_g me (own_g bl e))).1 (own_ln' ((own_ibs (ok.2 h25).2.2.2.2 e (own_g me (own_g bl e))))) (by rw [own_st']; rfl) rfl ?_
      refine C.aloadN (q := 103) d1_102 rfl rfl rfl ?_
      refine C.getf (q := 106) 0 5 (v := .ref r5) d1_103 (hw _ (List.mem_of_getElem? (i := 21) rfl)) rfl rfl rfl ?_
      refine C.iloadN (q := 107) d1_106 rfl rfl ?_
      refine C.iload (q := 109) d1_107 rfl rfl ?_
      refine C.iconst (q := 110) (z := (1 : Int32)) d1_109 rfl rfl ?_
      refine C.iadd (q := 111) d1_110 rfl ?_
      refine C.iastore (q := 112) 6 (H' := ((o, .inr ("com/example/terms_to_transitions/termstotransitions/equivalence/RefinablePartition", [("elements", "[I", .ref r0), ("locations", "[I", .ref r1), ("blocks", "[I", .ref r2), ("starts", "[I", .ref r3), ("ends", "[I", .ref r4), ("markedEnds", "[I", .ref r5), ("touched", "[I", .ref r6), ("blockCount", "I", .int bc), ("touchedCount", "I", .int tc)])) :: (r0, .inl (.int, (own_vl (own_s (own_s el (own_g me (own_g bl e)) e) (own_g lo e) (own_g el (own_g me (own_g bl e))))))) :: (r1, .inl (.int, (own_vl (own_s (own_s lo e (own_g me (own_g bl e))) (own_g el (own_g me (own_g bl e))) (own_g lo e))))) :: (r2, .inl (.int, (own_vl bl))) :: (r3, .inl (.int, (own_vl st))) :: (r4, .inl (.int, (own_vl en))) :: (r5, .inl (.int, (own_vl (own_s me (own_g bl e) ((own_g me (own_g bl e)) + (1 : Int32)))))) :: (r6, .inl (.int, (own_vl to))) :: Hr)) d1_111 rfl ok.1.2.2.1 (own_ln' (ok.1.2.2)) (by rw [own_st']; rfl) rfl ?_
      refine C.iconst (q := 113) (z := (1 : Int32)) d1_112 rfl rfl ?_
      exact C.retB (by simp) d1_113 (by decide) (by decide) ⟨by first | (rw [own_mkR, if_pos h25]; rfl) | (rw [own_mkR, if_neg h25]; rfl), by first | (simp only [own_mkS, if_pos h25]; done) | (simp only [own_mkS, if_neg h25, if_pos h38]; done) | (simp only [own_mkS, if_neg h25, if_neg h38]; done)⟩
theorem d2_0 : decode prog_7_method_3_code 0 = .ok (.aload_n 0, 1) := by decide +kernel
theorem d2_1 : decode prog_7_method_3_code 1 = .ok (.getfield 31, 3) := by decide +kernel
theorem d2_4 : decode prog_7_method_3_code 4 = .ok (.ireturn, 1) := by decide +kernel
theorem own_pn2 : plainFor (⟨"com/example/terms_to_transitions/termstotransitions/equivalence/RefinablePartition", "blockCount", "()I"⟩ : MethodName) = true := by first | exact plainFor_of_name (by first | (simp [plainName, overriddenIn]; done) | decide +kernel) | decide +kernel
set_option maxHeartbeats 4000000 in
theorem own_ef2 (m : MethodId) (x0 : Addr) : entryFrame m #[.ref x0] 1 = mkF m 0 #[.val (.ref x0)] [] := by first | (simp [entryFrame, mkF, argsToLocals, Value.category, maxLocals]; done) | rfl
set_option maxRecDepth 65536 in
set_option maxHeartbeats 40000000 in
theorem own_c2 (l : Launch) (Z : State) (a0 : Array Value) (n0 : Nat) (hw : ∀ d ∈ tables_1, d.before a0 Z = true) (ws : List Jvm.Cond) (o r0 r1 r2 r3 r4 r5 r6 : Addr) (Hr : own_Hs) (el lo bl st en me to : List Int32) (tc bc : Int32)  :
    own_Con l Z n0 (⟨"com/example/terms_to_transitions/termstotransitions/equivalence/RefinablePartition", "blockCount", "()I"⟩ : MethodName) prog_7_method_3_code 1 (some .int) ws ({ frames := 0, cells := 0, slots := 0, locals := 0 } : Room) #[.ref o] ((o, .inr ("com/example/terms_to_transitions/termstotransitions/equivalence/RefinablePartition", [("elements", "[I", .ref r0), ("locations", "[I", .ref r1), ("blocks", "[I", .ref r2), ("starts", "[I", .ref r3), ("ends", "[I", .ref r4), ("markedEnds", "[I", .ref r5), ("touched", "[I", .ref r6), ("blockCount", "I", .int bc), ("touchedCount", "I", .int tc)])) :: (r0, .inl (.int, (own_vl el))) :: (r1, .inl (.int, (own_vl lo))) :: (r2, .inl (.int, (own_vl bl))) :: (r3, .inl (.int, (own_vl st))) :: (r4, .inl (.int, (own_vl en))) :: (r5, .inl (.int, (own_vl me))) :: (r6, .inl (.int, (own_vl to))) :: Hr) (fun v H' => v = some (.int bc) ∧ H' = ((o, .inr ("com/example/terms_to_transitions/termstotransitions/equivalence/RefinablePartition", [("elements", "[I", .ref r0), ("locations", "[I", .ref r1), ("blocks", "[I", .ref r2), ("starts", "[I", .ref r3), ("ends", "[I", .ref r4), ("markedEnds", "[I", .ref r5), ("touched", "[I", .ref r6), ("blockCount", "I", .int bc), ("touchedCount", "I", .int tc)])) :: (r0, .inl (.int, (own_vl el))) :: (r1, .inl (.int, (own_vl lo))) :: (r2, .inl (.int, (own_vl bl))) :: (r3, .inl (.int, (own_vl st))) :: (r4, .inl (.int, (own_vl en))) :: (r5, .inl (.int, (own_vl me))) :: (r6, .inl (.int, (own_vl to))) :: Hr)) := by
  refine own_con own_pn2 (fun m_ => own_ef2 m_ o) ?_
  intro G C
  refine C.aloadN (q := 1) d2_0 rfl rfl rfl ?_
  refine C.getf (q := 4) 0 7 (v := .int bc) d2_1 (hw _ (List.mem_of_getElem? (i := 25) rfl)) rfl rfl rfl ?_
  exact C.retI d2_4 (by decide) (by decide) ⟨rfl, rfl⟩
theorem d3_0 : decode prog_7_method_4_code 0 = .ok (.aload_n 0, 1) := by decide +kernel
theorem d3_1 : decode prog_7_method_4_code 1 = .ok (.getfield 16, 3) := by decide +kernel
theorem d3_4 : decode prog_7_method_4_code 4 = .ok (.iload_n 1, 1) := by decide +kernel
theorem d3_5 : decode prog_7_method_4_code 5 = .ok (.iaload, 1) := by decide +kernel
theorem d3_6 : decode prog_7_method_4_code 6 = .ok (.ireturn, 1) := by decide +kernel
theorem own_pn3 : plainFor (⟨"com/example/terms_to_transitions/termstotransitions/equivalence/RefinablePartition", "blockOf", "(I)I"⟩ : MethodName) = true := by first | exact plainFor_of_name (by first | (simp [plainName, overriddenIn]; done) | decide +kernel) | decide +kernel
set_option maxHeartbeats 4000000 in
theorem own_ef3 (m : MethodId) (x0 : Addr) (x1 : Int32) : entryFrame m #[.ref x0, .int x1] 2 = mkF m 0 #[.val (.ref x0), .val (.int x1)] [] := by first | (simp [entryFrame, mkF, argsToLocals, Value.category, maxLocals]; done) | rfl
set_option maxRecDepth 65536 in
set_option maxHeartbeats 40000000 in
theorem own_c3 (l : Launch) (Z : State) (a0 : Array Value) (n0 : Nat) (hw : ∀ d ∈ tables_1, d.before a0 Z = true) (ws : List Jvm.Cond) (o r0 r1 r2 r3 r4 r5 r6 : Addr) (Hr : own_Hs) (el lo bl st en me to : List Int32) (tc bc : Int32) (e : Int32) (ok : own_ib e bl) :
    own_Con l Z n0 (⟨"com/example/terms_to_transitions/termstotransitions/equivalence/RefinablePartition", "blockOf", "(I)I"⟩ : MethodName) prog_7_method_4_code 2 (some .int) ws ({ frames := 0, cells := 0, slots := 0, locals := 0 } : Room) #[.ref o, .int e] ((o, .inr ("com/example/terms_to_transitions/termstotransitions/equivalence/RefinablePartition", [("elements", "[I", .ref r0), ("locations", "[I", .ref r1), ("blocks", "[I", .ref r2), ("starts", "[I", .ref r3), ("ends", "[I", .ref r4), ("markedEnds", "[I", .ref r5), ("touched", "[I", .ref r6), ("blockCount", "I", .int bc), ("touchedCount", "I", .int tc)])) :: (r0, .inl (.int, (own_vl el))) :: (r1, .inl (.int, (own_vl lo))) :: (r2, .inl (.int, (own_vl bl))) :: (r3, .inl (.int, (own_vl st))) :: (r4, .inl (.int, (own_vl en))) :: (r5, .inl (.int, (own_vl me))) :: (r6, .inl (.int, (own_vl to))) :: Hr) (fun v H' => v = some (.int (own_g bl e)) ∧ H' = ((o, .inr ("com/example/terms_to_transitions/termstotransitions/equivalence/RefinablePartition", [("elements", "[I", .ref r0), ("locations", "[I", .ref r1), ("blocks", "[I", .ref r2), ("starts", "[I", .ref r3), ("ends", "[I", .ref r4), ("markedEnds", "[I", .ref r5), ("touched", "[I", .ref r6), ("blockCount", "I", .int bc), ("touchedCount", "I", .int tc)])) :: (r0, .inl (.int, (own_vl el))) :: (r1, .inl (.int, (own_vl lo))) :: (r2, .inl (.int, (own_vl bl))) :: (r3, .inl (.int, (own_vl st))) :: (r4, .inl (.int, (own_vl en))) :: (r5, .inl (.int, (own_vl me))) :: (r6, .inl (.int, (own_vl to))) :: Hr)) := by
  refine own_con own_pn3 (fun m_ => own_ef3 m_ o e) ?_
  intro G C
  refine C.aloadN (q := 1) d3_0 rfl rfl rfl ?_
  refine C.getf (q := 4) 0 2 (v := .ref r2) d3_1 (hw _ (List.mem_of_getElem? (i := 15) rfl)) rfl rfl rfl ?_
  refine C.iloadN (q := 5) d3_4 rfl rfl ?_
  refine C.iaload (q := 6) 3 (v := .int (own_g bl e)) d3_5 rfl ok.1 (own_at' ok) rfl ?_
  exact C.retI d3_6 (by decide) (by decide) ⟨rfl, rfl⟩
def own_sg (x a b fb c d fd : Int32) : Int32 := (if x = a ∨ (¬ fb = 0 ∧ x = b) then 1 else 0) + (if x = c ∨ (¬ fd = 0 ∧ x = d) then 2 else 0)
def own_ag (kx ky gx gy p : Int32) : Int32 := if p = 0 then 1 else if (kx = ky ↔ gx = gy) then 1 else 0
theorem own_a1 {x y g h p : Int32} (e : p = 0) : own_ag x y g h p = 1 := if_pos e
theorem own_a2 {x y g h p : Int32} (e : ¬ p = 0) (a : x = y) (b : g = h) : own_ag x y g h p = 1 := by rw [own_ag, if_neg e, if_pos ⟨fun _ => b, fun _ => a⟩]
theorem own_a3 {x y g h p : Int32} (e : ¬ p = 0) (a : ¬ x = y) (b : ¬ g = h) : own_ag x y g h p = 1 := by rw [own_ag, if_neg e, if_pos ⟨fun z => absurd z a, fun z => absurd z b⟩]
theorem own_a4 {x y g h p : Int32} (e : ¬ p = 0) (a : x = y) (b : ¬ g = h) : own_ag x y g h p = 0 := by rw [own_ag, if_neg e, if_neg fun z => b (z.mp a)]
theorem own_a5 {x y g h p : Int32} (e : ¬ p = 0) (a : ¬ x = y) (b : g = h) : own_ag x y g h p = 0 := by rw [own_ag, if_neg e, if_neg fun z => a (z.mpr b)]
theorem own_p1 {x a b f : Int32} (h : x = a) : x = a ∨ (¬ f = 0 ∧ x = b) := Or.inl h
theorem own_p2 {x a b f : Int32} (h : ¬ f = 0) (g : x = b) : x = a ∨ (¬ f = 0 ∧ x = b) := Or.inr ⟨h, g⟩
theorem own_p3 {x a b f : Int32} (k : ¬ x = a) (h : f = 0) : ¬ (x = a ∨ (¬ f = 0 ∧ x = b)) := fun z => z.elim k fun z => z.1 h
theorem own_p4 {x a b f : Int32} (k : ¬ x = a) (h : ¬ x = b) : ¬ (x = a ∨ (¬ f = 0 ∧ x = b)) := fun z => z.elim k fun z => h z.2
theorem d4_0 : decode method_4_code 0 = .ok (.iconst 0, 1) := by decide +kernel
theorem d4_1 : decode method_4_code 1 = .ok (.istore 7, 2) := by decide +kernel
theorem d4_3 : decode method_4_code 3 = .ok (.iload_n 0, 1) := by decide +kernel
theorem d4_4 : decode method_4_code 4 = .ok (.iload_n 1, 1) := by decide +kernel
theorem d4_5 : decode method_4_code 5 = .ok (.if_icmp .eq 12, 3) := by decide +kernel
theorem d4_8 : decode method_4_code 8 = .ok (.iload_n 3, 1) := by decide +kernel
theorem d4_9 : decode method_4_code 9 = .ok (.ifCond .eq 14, 3) := by decide +kernel
theorem d4_12 : decode method_4_code 12 = .ok (.iload_n 0, 1) := by decide +kernel
theorem d4_13 : decode method_4_code 13 = .ok (.iload_n 2, 1) := by decide +kernel
theorem d4_14 : decode method_4_code 14 = .ok (.if_icmp .ne 9, 3) := by decide +kernel
theorem d4_17 : decode method_4_code 17 = .ok (.iload 7, 2) := by decide +kernel
theorem d4_19 : decode method_4_code 19 = .ok (.iconst 1, 1) := by decide +kernel
theorem d4_20 : decode method_4_code 20 = .ok (.iadd, 1) := by decide +kernel
theorem d4_21 : decode method_4_code 21 = .ok (.istore 7, 2) := by decide +kernel
theorem d4_23 : decode method_4_code 23 = .ok (.iload_n 0, 1) := by decide +kernel
theorem d4_24 : decode method_4_code 24 = .ok (.iload 4, 2) := by decide +kernel
theorem d4_26 : decode method_4_code 26 = .ok (.if_icmp .eq 14, 3) := by decide +kernel
theorem d4_29 : decode method_4_code 29 = .ok (.iload 6, 2) := by decide +kernel
theorem d4_31 : decode method_4_code 31 = .ok (.ifCond .eq 15, 3) := by decide +kernel
theorem d4_34 : decode method_4_code 34 = .ok (.iload_n 0, 1) := by decide +kernel
theorem d4_35 : decode method_4_code 35 = .ok (.iload 5, 2) := by decide +kernel
theorem d4_37 : decode method_4_code 37 = .ok (.if_icmp .ne 9, 3) := by decide +kernel
theorem d4_40 : decode method_4_code 40 = .ok (.iload 7, 2) := by decide +kernel
theorem d4_42 : decode method_4_code 42 = .ok (.iconst 2, 1) := by decide +kernel
theorem d4_43 : decode method_4_code 43 = .ok (.iadd, 1) := by decide +kernel
theorem d4_44 : decode method_4_code 44 = .ok (.istore 7, 2) := by decide +kernel
theorem d4_46 : decode method_4_code 46 = .ok (.iload 7, 2) := by decide +kernel
theorem d4_48 : decode method_4_code 48 = .ok (.ireturn, 1) := by decide +kernel
theorem own_pn4 : plainFor (⟨"com/example/terms_to_transitions/termstotransitions/equivalence/RefinablePartitionMarkPinLaw", "sig", "(IIIZIIZ)I"⟩ : MethodName) = true := by first | exact plainFor_of_name (by first | (simp [plainName, overriddenIn]; done) | decide +kernel) | decide +kernel
set_option maxHeartbeats 4000000 in
theorem own_ef4 (m : MethodId) (x0 : Int32) (x1 : Int32) (x2 : Int32) (x3 : Int32) (x4 : Int32) (x5 : Int32) (x6 : Int32) : entryFrame m #[.int x0, .int x1, .int x2, .int x3, .int x4, .int x5, .int x6] 8 = mkF m 0 #[.val (.int x0), .val (.int x1), .val (.int x2), .val (.int x3), .val (.int x4), .val (.int x5), .val (.int x6), .unset] [] := by first | (simp [entryFrame, mkF, argsToLocals, Value.category, maxLocals]; done) | rfl
set_option maxRecDepth 65536 in
set_option maxHeartbeats 40000000 in
theorem own_c4 (l : Launch) (Z : State) (a0 : Array Value) (n0 : Nat) (hw : ∀ d ∈ tables_1, d.before a0 Z = true) (ws : List Jvm.Cond) (x a b fb c d fd : Int32) (H : own_Hs)  :
    own_Con l Z n0 (⟨"com/example/terms_to_transitions/termstotransitions/equivalence/RefinablePartitionMarkPinLaw", "sig", "(IIIZIIZ)I"⟩ : MethodName) method_4_code 8 (some .int) ws ({ frames := 0, cells := 0, slots := 0, locals := 0 } : Room) #[.int x, .int a, .int b, .int fb, .int c, .int d, .int fd] H (fun v H' => v = some (.int (own_sg x a b fb c d fd)) ∧ H' = H) := by
  refine own_con own_pn4 (fun m_ => own_ef4 m_ x a b fb c d fd) ?_
  intro G C
  refine C.iconst (q := 1) (z := (0 : Int32)) d4_0 rfl rfl ?_
  refine C.istore (q := 3) (ls' := [.val (.int x), .val (.int a), .val (.int b), .val (.int fb), .val (.int c), .val (.int d), .val (.int fd), .val (.int (0 : Int32))]) d4_1 rfl rfl ?_
  refine C.iloadN (q := 4) d4_3 rfl rfl ?_
  refine C.iloadN (q := 5) d4_4 rfl rfl ?_
  refine C.icmpEq (q := 17) (q' := 8) d4_5 (by decide) (by decide) rfl (fun h5 => ?_) (fun h5 => ?_)
  · refine C.iload (q := 19) d4_17 rfl rfl ?_
    refine C.iconst (q := 20) (z := (1 : Int32)) d4_19 rfl rfl ?_
    refine C.iadd (q := 21) d4_20 rfl ?_
    show G 0 0 H 21 [.val (.int x), .val (.int a), .val (.int b), .val (.int fb), .val (.int c), .val (.int d), .val (.int fd), .val (.int (0 : Int32))] [.int (1 : Int32)]
    refine C.istore (q := 23) (ls' := [.val (.int x), .val (.int a), .val (.int b), .val (.int fb), .val (.int c), .val (.int d), .val (.int fd), .val (.int (1 : Int32))]) d4_21 rfl rfl ?_
    have pA : (x = a ∨ (¬ fb = 0 ∧ x = b)) := by first | exact own_p2 h9 h14 | exact own_p4 h5 h14 | exact own_p3 h5 h9 | exact own_p1 h5
    refine C.iloadN (q := 24) d4_23 rfl rfl ?_
    refine C.iload (q := 26) d4_24 rfl rfl ?_
    refine C.icmpEq (q := 40) (q' := 29) d4_26 (by decide) (by decide) rfl (fun h26 => ?_) (fun h26 => ?_)
    · refine C.iload (q := 42) d4_40 rfl rfl ?_
      refine C.iconst (q := 43) (z := (2 : Int32)) d4_42 rfl rfl ?_
      refine C.iadd (q := 44) d4_43 rfl ?_
      show G 0 0 H 44 [.val (.int x), .val (.int a), .val (.int b), .val (.int fb), .val (.int c), .val (.int d), .val (.int fd), .val (.int (1 : Int32))] [.int (3 : Int32)]
      refine C.istore (q := 46) (ls' := [.val (.int x), .val (.int a), .val (.int b), .val (.int fb), .val (.int c), .val (.int d), .val (.int fd), .val (.int (3 : Int32))]) d4_44 rfl rfl ?_
      have pB : (x = c ∨ (¬ fd = 0 ∧ x = d)) := by first | exact own_p2 h31 h37 | exact own_p4 h26 h37 | exact own_p3 h26 h31 | exact own_p1 h26
      refine C.iload (q := 48) d4_46 rfl rfl ?_
      exact C.retI d4_48 (by decide) (by decide) ⟨congrArg (fun z => some (Value.int z)) (by first | (rw [own_sg, if_pos pA, if_pos pB]; rfl) | (rw [own_sg, if_pos pA, if_neg pB]; rfl) | (rw [own_sg, if_neg pA, if_pos pB]; rfl) | (rw [own_sg, if_neg pA, if_neg pB]; rfl)), rfl⟩
    · refine C.iload (q := 31) d4_29 rfl rfl ?_
      refine C.ifEq (q := 46) (q' := 34) d4_31 (by decide) (by decide) rfl (fun h31 => ?_) (fun h31 => ?_)
      · have pB : ¬ (x = c ∨ (¬ fd = 0 ∧ x = d)) := by first | exact own_p2 h31 h37 | exact own_p4 h26 h37 | exact own_p3 h26 h31 | exact own_p1 h26
        refine C.iload (q := 48) d4_46 rfl rfl ?_
        exact C.retI d4_48 (by decide) (by decide) ⟨congrArg (fun z => some (Value.int z)) (by first | (rw [own_sg, if_pos pA, if_pos pB]; rfl) | (rw [own_sg, if_pos pA, if_neg pB]; rfl) | (rw [own_sg, if_neg pA, if_pos pB]; rfl) | (rw [own_sg, if_neg pA, if_neg pB]; rfl)), rfl⟩
      · refine C.iloadN (q := 35) d4_34 rfl rfl ?_
        refine C.iload (q := 37) d4_35 rfl rfl ?_
        refine C.icmpNe (q := 46) (q' := 40) d4_37 (by decide) (by decide) rfl (fun h37 => ?_) (fun h37 => ?_)
        · refine C.iload (q := 42) d4_40 rfl rfl ?_
          refine C.iconst (q := 43) (z := (2 : Int32)) d4_42 rfl rfl ?_
          refine C.iadd (q := 44) d4_43 rfl ?_
          show G 0 0 H 44 [.val (.int x), .val (.int a), .val (.int b), .val (.int fb), .val (.int c), .val (.int d), .val (.int fd), .val (.int (1 : Int32))] [.int (3 : Int32)]
          refine C.istore (q := 46) (ls' := [.val (.int x), .val (.int a), .val (.int b), .val (.int fb), .val (.int c), .val (.int d), .val (.int fd), .val (.int (3 : Int32))]) d4_44 rfl rfl ?_
          have pB : (x = c ∨ (¬ fd = 0 ∧ x = d)) := by first | exact own_p2 h31 h37 | exact own_p4 h26 h37 | exact own_p3 h26 h31 | exact own_p1 h26
          refine C.iload (q := 48) d4_46 rfl rfl ?_
          exact C.retI d4_48 (by decide) (by decide) ⟨congrArg (fun z => some (Value.int z)) (by first | (rw [own_sg, if_pos pA, if_pos pB]; rfl) | (rw [own_sg, if_pos pA, if_neg pB]; rfl) | (rw [own_sg, if_neg pA, if_pos pB]; rfl) | (rw [own_sg, if_neg pA, if_neg pB]; rfl)), rfl⟩
        · have pB : ¬ (x = c ∨ (¬ fd = 0 ∧ x = d)) := by first | exact own_p2 h31 h37 | exact own_p4 h26 h37 | exact own_p3 h26 h31 | exact own_p1 h26
          refine C.iload (q := 48) d4_46 rfl rfl ?_
          exact C.retI d4_48 (by decide) (by decide) ⟨congrArg (fun z => some (Value.int z)) (by first | (rw [own_sg, if_pos pA, if_pos pB]; rfl) | (rw [own_sg, if_pos pA, if_neg pB]; rfl) | (rw [own_sg, if_neg pA, if_pos pB]; rfl) | (rw [own_sg, if_neg pA, if_neg pB]; rfl)), rfl⟩
  · refine C.iloadN (q := 9) d4_8 rfl rfl ?_
    refine C.ifEq (q := 23) (q' := 12) d4_9 (by decide) (by decide) rfl (fun h9 => ?_) (fun h9 => ?_)
    · have pA : ¬ (x = a ∨ (¬ fb = 0 ∧ x = b)) := by first | exact own_p2 h9 h14 | exact own_p4 h5 h14 | exact own_p3 h5 h9 | exact own_p1 h5
      refine C.iloadN (q := 24) d4_23 rfl rfl ?_
      refine C.iload (q := 26) d4_24 rfl rfl ?_
      refine C.icmpEq (q := 40) (q' := 29) d4_26 (by decide) (by decide) rfl (fun h26 => ?_) (fun h26 => ?_)
      · refine C.iload (q := 42) d4_40 rfl rfl ?_
        refine C.iconst (q := 43) (z := (2 : Int32)) d4_42 rfl rfl ?_
        refine C.iadd (q := 44) d4_43 rfl ?_
        show G 0 0 H 44 [.val (.int x), .val (.int a), .val (.int b), .val (.int fb), .val (.int c), .val (.int d), .val (.int fd), .val (.int (0 : Int32))] [.int (2 : Int32)]
        refine C.istore (q := 46) (ls' := [.val (.int x), .val (.int a), .val (.int b), .val (.int fb), .val (.int c), .val (.int d), .val (.int fd), .val (.int (2 : Int32))]) d4_44 rfl rfl ?_
        have pB : (x = c ∨ (¬ fd = 0 ∧ x = d)) := by first | exact own_p2 h31 h37 | exact own_p4 h26 h37 | exact own_p3 h26 h31 | exact own_p1 h26
        refine C.iload (q := 48) d4_46 rfl rfl ?_
        exact C.retI d4_48 (by decide) (by decide) ⟨congrArg (fun z => some (Value.int z)) (by first | (rw [own_sg, if_pos pA, if_pos pB]; rfl) | (rw [own_sg, if_pos pA, if_neg pB]; rfl) | (rw [own_sg, if_neg pA, if_pos pB]; rfl) | (rw [own_sg, if_neg pA, if_neg pB]; rfl)), rfl⟩
      · refine C.iload (q := 31) d4_29 rfl rfl ?_
        refine C.ifEq (q := 46) (q' := 34) d4_31 (by decide) (by decide) rfl (fun h31 => ?_) (fun h31 => ?_)
        · have pB : ¬ (x = c ∨ (¬ fd = 0 ∧ x = d)) := by first | exact own_p2 h31 h37 | exact own_p4 h26 h37 | exact own_p3 h26 h31 | exact own_p1 h26
          refine C.iload (q := 48) d4_46 rfl rfl ?_
          exact C.retI d4_48 (by decide) (by decide) ⟨congrArg (fun z => some (Value.int z)) (by first | (rw [own_sg, if_pos pA, if_pos pB]; rfl) | (rw [own_sg, if_pos pA, if_neg pB]; rfl) | (rw [own_sg, if_neg pA, if_pos pB]; rfl) | (rw [own_sg, if_neg pA, if_neg pB]; rfl)), rfl⟩
        · refine C.iloadN (q := 35) d4_34 rfl rfl ?_
          refine C.iload (q := 37) d4_35 rfl rfl ?_
          refine C.icmpNe (q := 46) (q' := 40) d4_37 (by decide) (by decide) rfl (fun h37 => ?_) (fun h37 => ?_)
          · refine C.iload (q := 42) d4_40 rfl rfl ?_
            refine C.iconst (q := 43) (z := (2 : Int32)) d4_42 rfl rfl ?_
            refine C.iadd (q := 44) d4_43 rfl ?_
            show G 0 0 H 44 [.val (.int x), .val (.int a), .val (.int b), .val (.int fb), .val (.int c), .val (.int d), .val (.int fd), .val (.int (0 : Int32))] [.int (2 : Int32)]
            refine C.istore (q := 46) (ls' := [.val (.int x), .val (.int a), .val (.int b), .val (.int fb), .val (.int c), .val (.int d), .val (.int fd), .val (.int (2 : Int32))]) d4_44 rfl rfl ?_
            have pB : (x = c ∨ (¬ fd = 0 ∧ x = d)) := by first | exact own_p2 h31 h37 | exact own_p4 h26 h37 | exact own_p3 h26 h31 | exact own_p1 h26
            refine C.iload (q := 48) d4_46 rfl rfl ?_
            exact C.retI d4_48 (by decide) (by decide) ⟨congrArg (fun z => some (Value.int z)) (by first | (rw [own_sg, if_pos pA, if_pos pB]; rfl) | (rw [own_sg, if_pos pA, if_neg pB]; rfl) | (rw [own_sg, if_neg pA, if_pos pB]; rfl) | (rw [own_sg, if_neg pA, if_neg pB]; rfl)), rfl⟩
          · have pB : ¬ (x = c ∨ (¬ fd = 0 ∧ x = d)) := by first | exact own_p2 h31 h37 | exact own_p4 h26 h37 | exact own_p3 h26 h31 | exact own_p1 h26
            refine C.iload (q := 48) d4_46 rfl rfl ?_
            exact C.retI d4_48 (by decide) (by decide) ⟨congrArg (fun z => some (Value.int z)) (by first | (rw [own_sg, if_pos pA, if_pos pB]; rfl) | (rw [own_sg, if_pos pA, if_neg pB]; rfl) | (rw [own_sg, if_neg pA, if_pos pB]; rfl) | (rw [own_sg, if_neg pA, if_neg pB]; rfl)), rfl⟩
    · refine C.iloadN (q := 13) d4_12 rfl rfl ?_
      refine C.iloadN (q := 14) d4_13 rfl rfl ?_
      refine C.icmpNe (q := 23) (q' := 17) d4_14 (by decide) (by decide) rfl (fun h14 => ?_) (fun h14 => ?_)
      · refine C.iload (q := 19) d4_17 rfl rfl ?_
        refine C.iconst (q := 20) (z := (1 : Int32)) d4_19 rfl rfl ?_
        refine C.iadd (q := 21) d4_20 rfl ?_
        show G 0 0 H 21 [.val (.int x), .val (.int a), .val (.int b), .val (.int fb), .val (.int c), .val (.int d), .val (.int fd), .val (.int (0 : Int32))] [.int (1 : Int32)]
        refine C.istore (q := 23) (ls' := [.val (.int x), .val (.int a), .val (.int b), .val (.int fb), .val (.int c), .val (.int d), .val (.int fd), .val (.int (1 : Int32))]) d4_21 rfl rfl ?_
        have pA : (x = a ∨ (¬ fb = 0 ∧ x = b)) := by first | exact own_p2 h9 h14 | exact own_p4 h5 h14 | exact own_p3 h5 h9 | exact own_p1 h5
        refine C.iloadN (q := 24) d4_23 rfl rfl ?_
        refine C.iload (q := 26) d4_24 rfl rfl ?_
        refine C.icmpEq (q := 40) (q' := 29) d4_26 (by decide) (by decide) rfl (fun h26 => ?_) (fun h26 => ?_)
        · refine C.iload (q := 42) d4_40 rfl rfl ?_
          refine C.iconst (q := 43) (z := (2 : Int32)) d4_42 rfl rfl ?_
          refine C.iadd (q := 44) d4_43 rfl ?_
          show G 0 0 H 44 [.val (.int x), .val (.int a), .val (.int b), .val (.int fb), .val (.int c), .val (.int d), .val (.int fd), .val (.int (1 : Int32))] [.int (3 : Int32)]
          refine C.istore (q := 46) (ls' := [.val (.int x), .val (.int a), .val (.int b), .val (.int fb), .val (.int c), .val (.int d), .val (.int fd), .val (.int (3 : Int32))]) d4_44 rfl rfl ?_
          have pB : (x = c ∨ (¬ fd = 0 ∧ x = d)) := by first | exact own_p2 h31 h37 | exact own_p4 h26 h37 | exact own_p3 h26 h31 | exact own_p1 h26
          refine C.iload (q := 48) d4_46 rfl rfl ?_
          exact C.retI d4_48 (by decide) (by decide) ⟨congrArg (fun z => some (Value.int z)) (by first | (rw [own_sg, if_pos pA, if_pos pB]; rfl) | (rw [own_sg, if_pos pA, if_neg pB]; rfl) | (rw [own_sg, if_neg pA, if_pos pB]; rfl) | (rw [own_sg, if_neg pA, if_neg pB]; rfl)), rfl⟩
        · refine C.iload (q := 31) d4_29 rfl rfl ?_
          refine C.ifEq (q := 46) (q' := 34) d4_31 (by decide) (by decide) rfl (fun h31 => ?_) (fun h31 => ?_)
          · have pB : ¬ (x = c ∨ (¬ fd = 0 ∧ x = d)) := by first | exact own_p2 h31 h37 | exact own_p4 h26 h37 | exact own_p3 h26 h31 | exact own_p1 h26
            refine C.iload (q := 48) d4_46 rfl rfl ?_
            exact C.retI d4_48 (by decide) (by decide) ⟨congrArg (fun z => some (Value.int z)) (by first | (rw [own_sg, if_pos pA, if_pos pB]; rfl) | (rw [own_sg, if_pos pA, if_neg pB]; rfl) | (rw [own_sg, if_neg pA, if_pos pB]; rfl) | (rw [own_sg, if_neg pA, if_neg pB]; rfl)), rfl⟩
          · refine C.iloadN (q := 35) d4_34 rfl rfl ?_
            refine C.iload (q := 37) d4_35 rfl rfl ?_
            refine C.icmpNe (q := 46) (q' := 40) d4_37 (by decide) (by decide) rfl (fun h37 => ?_) (fun h37 => ?_)
            · refine C.iload (q := 42) d4_40 rfl rfl ?_
              refine C.iconst (q := 43) (z := (2 : Int32)) d4_42 rfl rfl ?_
              refine C.iadd (q := 44) d4_43 rfl ?_
              show G 0 0 H 44 [.val (.int x), .val (.int a), .val (.int b), .val (.int fb), .val (.int c), .val (.int d), .val (.int fd), .val (.int (1 : Int32))] [.int (3 : Int32)]
              refine C.istore (q := 46) (ls' := [.val (.int x), .val (.int a), .val (.int b), .val (.int fb), .val (.int c), .val (.int d), .val (.int fd), .val (.int (3 : Int32))]) d4_44 rfl rfl ?_
              have pB : (x = c ∨ (¬ fd = 0 ∧ x = d)) := by first | exact own_p2 h31 h37 | exact own_p4 h26 h37 | exact own_p3 h26 h31 | exact own_p1 h26
              refine C.iload (q := 48) d4_46 rfl rfl ?_
              exact C.retI d4_48 (by decide) (by decide) ⟨congrArg (fun z => some (Value.int z)) (by first | (rw [own_sg, if_pos pA, if_pos pB]; rfl) | (rw [own_sg, if_pos pA, if_neg pB]; rfl) | (rw [own_sg, if_neg pA, if_pos pB]; rfl) | (rw [own_sg, if_neg pA, if_neg pB]; rfl)), rfl⟩
            · have pB : ¬ (x = c ∨ (¬ fd = 0 ∧ x = d)) := by first | exact own_p2 h31 h37 | exact own_p4 h26 h37 | exact own_p3 h26 h31 | exact own_p1 h26
              refine C.iload (q := 48) d4_46 rfl rfl ?_
              exact C.retI d4_48 (by decide) (by decide) ⟨congrArg (fun z => some (Value.int z)) (by first | (rw [own_sg, if_pos pA, if_pos pB]; rfl) | (rw [own_sg, if_pos pA, if_neg pB]; rfl) | (rw [own_sg, if_neg pA, if_pos pB]; rfl) | (rw [own_sg, if_neg pA, if_neg pB]; rfl)), rfl⟩
      · have pA : ¬ (x = a ∨ (¬ fb = 0 ∧ x = b)) := by first | exact own_p2 h9 h14 | exact own_p4 h5 h14 | exact own_p3 h5 h9 | exact own_p1 h5
        refine C.iloadN (q := 24) d4_23 rfl rfl ?_
        refine C.iload (q := 26) d4_24 rfl rfl ?_
        refine C.icmpEq (q := 40) (q' := 29) d4_26 (by decide) (by decide) rfl (fun h26 => ?_) (fun h26 => ?_)
        · refine C.iload (q := 42) d4_40 rfl rfl ?_
          refine C.iconst (q := 43) (z := (2 : Int32)) d4_42 rfl rfl ?_
          refine C.iadd (q := 44) d4_43 rfl ?_
          show G 0 0 H 44 [.val (.int x), .val (.int a), .val (.int b), .val (.int fb), .val (.int c), .val (.int d), .val (.int fd), .val (.int (0 : Int32))] [.int (2 : Int32)]
          refine C.istore (q := 46) (ls' := [.val (.int x), .val (.int a), .val (.int b), .val (.int fb), .val (.int c), .val (.int d), .val (.int fd), .val (.int (2 : Int32))]) d4_44 rfl rfl ?_
          have pB : (x = c ∨ (¬ fd = 0 ∧ x = d)) := by first | exact own_p2 h31 h37 | exact own_p4 h26 h37 | exact own_p3 h26 h31 | exact own_p1 h26
          refine C.iload (q := 48) d4_46 rfl rfl ?_
          exact C.retI d4_48 (by decide) (by decide) ⟨congrArg (fun z => some (Value.int z)) (by first | (rw [own_sg, if_pos pA, if_pos pB]; rfl) | (rw [own_sg, if_pos pA, if_neg pB]; rfl) | (rw [own_sg, if_neg pA, if_pos pB]; rfl) | (rw [own_sg, if_neg pA, if_neg pB]; rfl)), rfl⟩
        · refine C.iload (q := 31) d4_29 rfl rfl ?_
          refine C.ifEq (q := 46) (q' := 34) d4_31 (by decide) (by decide) rfl (fun h31 => ?_) (fun h31 => ?_)
          · have pB : ¬ (x = c ∨ (¬ fd = 0 ∧ x = d)) := by first | exact own_p2 h31 h37 | exact own_p4 h26 h37 | exact own_p3 h26 h31 | exact own_p1 h26
            refine C.iload (q := 48) d4_46 rfl rfl ?_
            exact C.retI d4_48 (by decide) (by decide) ⟨congrArg (fun z => some (Value.int z)) (by first | (rw [own_sg, if_pos pA, if_pos pB]; rfl) | (rw [own_sg, if_pos pA, if_neg pB]; rfl) | (rw [own_sg, if_neg pA, if_pos pB]; rfl) | (rw [own_sg, if_neg pA, if_neg pB]; rfl)), rfl⟩
          · refine C.iloadN (q := 35) d4_34 rfl rfl ?_
            refine C.iload (q := 37) d4_35 rfl rfl ?_
            refine C.icmpNe (q := 46) (q' := 40) d4_37 (by decide) (by decide) rfl (fun h37 => ?_) (fun h37 => ?_)
            · refine C.iload (q := 42) d4_40 rfl rfl ?_
              refine C.iconst (q := 43) (z := (2 : Int32)) d4_42 rfl rfl ?_
              refine C.iadd (q := 44) d4_43 rfl ?_
              show G 0 0 H 44 [.val (.int x), .val (.int a), .val (.int b), .val (.int fb), .val (.int c), .val (.int d), .val (.int fd), .val (.int (0 : Int32))] [.int (2 : Int32)]
              refine C.istore (q := 46) (ls' := [.val (.int x), .val (.int a), .val (.int b), .val (.int fb), .val (.int c), .val (.int d), .val (.int fd), .val (.int (2 : Int32))]) d4_44 rfl rfl ?_
              have pB : (x = c ∨ (¬ fd = 0 ∧ x = d)) := by first | exact own_p2 h31 h37 | exact own_p4 h26 h37 | exact own_p3 h26 h31 | exact own_p1 h26
              refine C.iload (q := 48) d4_46 rfl rfl ?_
              exact C.retI d4_48 (by decide) (by decide) ⟨congrArg (fun z => some (Value.int z)) (by first | (rw [own_sg, if_pos pA, if_pos pB]; rfl) | (rw [own_sg, if_pos pA, if_neg pB]; rfl) | (rw [own_sg, if_neg pA, if_pos pB]; rfl) | (rw [own_sg, if_neg pA, if_neg pB]; rfl)), rfl⟩
            · have pB : ¬ (x = c ∨ (¬ fd = 0 ∧ x = d)) := by first | exact own_p2 h31 h37 | exact own_p4 h26 h37 | exact own_p3 h26 h31 | exact own_p1 h26
              refine C.iload (q := 48) d4_46 rfl rfl ?_
              exact C.retI d4_48 (by decide) (by decide) ⟨congrArg (fun z => some (Value.int z)) (by first | (rw [own_sg, if_pos pA, if_pos pB]; rfl) | (rw [own_sg, if_pos pA, if_neg pB]; rfl) | (rw [own_sg, if_neg pA, if_pos pB]; rfl) | (rw [own_sg, if_neg pA, if_neg pB]; rfl)), rfl⟩
theorem d5_0 : decode method_5_code 0 = .ok (.iload 4, 2) := by decide +kernel
theorem d5_2 : decode method_5_code 2 = .ok (.ifCond .ne 5, 3) := by decide +kernel
theorem d5_5 : decode method_5_code 5 = .ok (.iconst 1, 1) := by decide +kernel
theorem d5_6 : decode method_5_code 6 = .ok (.ireturn, 1) := by decide +kernel
theorem d5_7 : decode method_5_code 7 = .ok (.iload_n 0, 1) := by decide +kernel
theorem d5_8 : decode method_5_code 8 = .ok (.iload_n 1, 1) := by decide +kernel
theorem d5_9 : decode method_5_code 9 = .ok (.if_icmp .ne 7, 3) := by decide +kernel
theorem d5_12 : decode method_5_code 12 = .ok (.iconst 1, 1) := by decide +kernel
theorem d5_13 : decode method_5_code 13 = .ok (.goto 4, 3) := by decide +kernel
theorem d5_16 : decode method_5_code 16 = .ok (.iconst 0, 1) := by decide +kernel
theorem d5_17 : decode method_5_code 17 = .ok (.iload_n 2, 1) := by decide +kernel
theorem d5_18 : decode method_5_code 18 = .ok (.iload_n 3, 1) := by decide +kernel
theorem d5_19 : decode method_5_code 19 = .ok (.if_icmp .ne 7, 3) := by decide +kernel
theorem d5_22 : decode method_5_code 22 = .ok (.iconst 1, 1) := by decide +kernel
theorem d5_23 : decode method_5_code 23 = .ok (.goto 4, 3) := by decide +kernel
theorem d5_26 : decode method_5_code 26 = .ok (.iconst 0, 1) := by decide +kernel
theorem d5_27 : decode method_5_code 27 = .ok (.if_icmp .ne 7, 3) := by decide +kernel
theorem d5_30 : decode method_5_code 30 = .ok (.iconst 1, 1) := by decide +kernel
theorem d5_31 : decode method_5_code 31 = .ok (.goto 4, 3) := by decide +kernel
theorem d5_34 : decode method_5_code 34 = .ok (.iconst 0, 1) := by decide +kernel
theorem d5_35 : decode method_5_code 35 = .ok (.ireturn, 1) := by decide +kernel
theorem own_pn5 : plainFor (⟨"com/example/terms_to_transitions/termstotransitions/equivalence/RefinablePartitionMarkPinLaw", "agree", "(IIIIZ)Z"⟩ : MethodName) = true := by first | exact plainFor_of_name (by first | (simp [plainName, overriddenIn]; done) | decide +kernel) | decide +kernel
set_option maxHeartbeats 4000000 in
theorem own_ef5 (m : MethodId) (x0 : Int32) (x1 : Int32) (x2 : Int32) (x3 : Int32) (x4 : Int32) : entryFrame m #[.int x0, .int x1, .int x2, .int x3, .int x4] 5 = mkF m 0 #[.val (.int x0), .val (.int x1), .val (.int x2), .val (.int x3), .val (.int x4)] [] := by first | (simp [entryFrame, mkF, argsToLocals, Value.category, maxLocals]; done) | rfl
set_option maxRecDepth 65536 in
set_option maxHeartbeats 40000000 in
theorem own_c5 (l : Launch) (Z : State) (a0 : Array Value) (n0 : Nat) (hw : ∀ d ∈ tables_1, d.before a0 Z = true) (ws : List Jvm.Cond) (p q r s u : Int32) (H : own_Hs)  :
    own_Con l Z n0 (⟨"com/example/terms_to_transitions/termstotransitions/equivalence/RefinablePartitionMarkPinLaw", "agree", "(IIIIZ)Z"⟩ : MethodName) method_5_code 5 (some .boolean) ws ({ frames := 0, cells := 0, slots := 0, locals := 0 } : Room) #[.int p, .int q, .int r, .int s, .int u] H (fun v H' => v = some (.int (own_ag p q r s u)) ∧ H' = H) := by
  refine own_con own_pn5 (fun m_ => own_ef5 m_ p q r s u) ?_
  intro G C
  refine C.iload (q := 2) d5_0 rfl rfl ?_
  refine C.ifNe (q := 7) (q' := 5) d5_2 (by decide) (by decide) rfl (fun h2 => ?_) (fun h2 => ?_)
  · refine C.iconst (q := 6) (z := (1 : Int32)) d5_5 rfl rfl ?_
    exact C.retB (by simp) d5_6 (by decide) (by decide) ⟨congrArg (fun z => some (Value.int z)) (by first | exact (own_a2 h2 h9 h19).symm | exact (own_a3 h2 h9 h19).symm | exact (own_a4 h2 h9 h19).symm | exact (own_a5 h2 h9 h19).symm | exact (own_a1 h2).symm), rfl⟩
  · refine C.iloadN (q := 8) d5_7 rfl rfl ?_
    refine C.iloadN (q := 9) d5_8 rfl rfl ?_
    refine C.icmpNe (q := 16) (q' := 12) d5_9 (by decide) (by decide) rfl (fun h9 => ?_) (fun h9 => ?_)
    · refine C.iconst (q := 13) (z := (1 : Int32)) d5_12 rfl rfl ?_
      refine C.goto (q := 17) d5_13 (by decide) (by decide) ?_
      refine C.iloadN (q := 18) d5_17 rfl rfl ?_
      refine C.iloadN (q := 19) d5_18 rfl rfl ?_
      refine C.icmpNe (q := 26) (q' := 22) d5_19 (by decide) (by decide) rfl (fun h19 => ?_) (fun h19 => ?_)
      · refine C.iconst (q := 23) (z := (1 : Int32)) d5_22 rfl rfl ?_
        refine C.goto (q := 27) d5_23 (by decide) (by decide) ?_
        refine C.icmpNe (q := 34) (q' := 30) d5_27 (by decide) (by decide) rfl (fun h27 => ?_) (fun h27 => absurd (by decide) h27)
        refine C.iconst (q := 31) (z := (1 : Int32)) d5_30 rfl rfl ?_
        refine C.goto (q := 35) d5_31 (by decide) (by decide) ?_
        exact C.retB (by simp) d5_35 (by decide) (by decide) ⟨congrArg (fun z => some (Value.int z)) (by first | exact (own_a2 h2 h9 h19).symm | exact (own_a3 h2 h9 h19).symm | exact (own_a4 h2 h9 h19).symm | exact (own_a5 h2 h9 h19).symm | exact (own_a1 h2).symm), rfl⟩
      · refine C.iconst (q := 27) (z := (0 : Int32)) d5_26 rfl rfl ?_
        refine C.icmpNe (q := 34) (q' := 30) d5_27 (by decide) (by decide) rfl (fun h27 => absurd h27 (by decide)) (fun h27 => ?_)
        refine C.iconst (q := 35) (z := (0 : Int32)) d5_34 rfl rfl ?_
        exact C.retB (by simp) d5_35 (by decide) (by decide) ⟨congrArg (fun z => some (Value.int z)) (by first | exact (own_a2 h2 h9 h19).symm | exact (own_a3 h2 h9 h19).symm | exact (own_a4 h2 h9 h19).symm | exact (own_a5 h2 h9 h19).symm | exact (own_a1 h2).symm), rfl⟩
    · refine C.iconst (q := 17) (z := (0 : Int32)) d5_16 rfl rfl ?_
      refine C.iloadN (q := 18) d5_17 rfl rfl ?_
      refine C.iloadN (q := 19) d5_18 rfl rfl ?_
      refine C.icmpNe (q := 26) (q' := 22) d5_19 (by decide) (by decide) rfl (fun h19 => ?_) (fun h19 => ?_)
      · refine C.iconst (q := 23) (z := (1 : Int32)) d5_22 rfl rfl ?_
        refine C.goto (q := 27) d5_23 (by decide) (by decide) ?_
        refine C.icmpNe (q := 34) (q' := 30) d5_27 (by decide) (by decide) rfl (fun h27 => absurd h27 (by decide)) (fun h27 => ?_)
        refine C.iconst (q := 35) (z := (0 : Int32)) d5_34 rfl rfl ?_
        exact C.retB (by simp) d5_35 (by decide) (by decide) ⟨congrArg (fun z => some (Value.int z)) (by first | exact (own_a2 h2 h9 h19).symm | exact (own_a3 h2 h9 h19).symm | exact (own_a4 h2 h9 h19).symm | exact (own_a5 h2 h9 h19).symm | exact (own_a1 h2).symm), rfl⟩
      · refine C.iconst (q := 27) (z := (0 : Int32)) d5_26 rfl rfl ?_
        refine C.icmpNe (q := 34) (q' := 30) d5_27 (by decide) (by decide) rfl (fun h27 => ?_) (fun h27 => absurd (by decide) h27)
        refine C.iconst (q := 31) (z := (1 : Int32)) d5_30 rfl rfl ?_
        refine C.goto (q := 35) d5_31 (by decide) (by decide) ?_
        exact C.retB (by simp) d5_35 (by decide) (by decide) ⟨congrArg (fun z => some (Value.int z)) (by first | exact (own_a2 h2 h9 h19).symm | exact (own_a3 h2 h9 h19).symm | exact (own_a4 h2 h9 h19).symm | exact (own_a5 h2 h9 h19).symm | exact (own_a1 h2).symm), rfl⟩
theorem d6_0 : decode method_2_code 0 = .ok (.return_, 1) := by decide +kernel
theorem own_pn6 : plainFor (⟨"com/example/terms_to_transitions/termstotransitions/equivalence/RefinablePartitionMarkPinLaw", "splitOff", "(II)V"⟩ : MethodName) = true := by first | exact plainFor_of_name (by first | (simp [plainName, overriddenIn]; done) | decide +kernel) | decide +kernel
set_option maxHeartbeats 4000000 in
theorem own_ef6 (m : MethodId) (x0 : Addr) (x1 : Int32) (x2 : Int32) : entryFrame m #[.ref x0, .int x1, .int x2] 3 = mkF m 0 #[.val (.ref x0), .val (.int x1), .val (.int x2)] [] := by first | (simp [entryFrame, mkF, argsToLocals, Value.category, maxLocals]; done) | rfl
set_option maxRecDepth 65536 in
set_option maxHeartbeats 40000000 in
theorem own_c6 (l : Launch) (Z : State) (a0 : Array Value) (n0 : Nat) (hw : ∀ d ∈ tables_1, d.before a0 Z = true) (ws : List Jvm.Cond) (o : Addr) (a b : Int32) (H : own_Hs)  :
    own_Con l Z n0 (⟨"com/example/terms_to_transitions/termstotransitions/equivalence/RefinablePartitionMarkPinLaw", "splitOff", "(II)V"⟩ : MethodName) method_2_code 3 none ws ({ frames := 0, cells := 0, slots := 0, locals := 0 } : Room) #[.ref o, .int a, .int b] H (fun v H' => v = none ∧ H' = H) := by
  refine own_con own_pn6 (fun m_ => own_ef6 m_ o a b) ?_
  intro G C
  exact C.retV d6_0 (by decide) (by decide) ⟨rfl, rfl⟩
theorem d7_0 : decode method_1_code 0 = .ok (.aload_n 0, 1) := by decide +kernel
theorem d7_1 : decode method_1_code 1 = .ok (.invokespecial 1, 3) := by decide +kernel
theorem d7_4 : decode method_1_code 4 = .ok (.return_, 1) := by decide +kernel
theorem own_pn7 : plainFor (⟨"com/example/terms_to_transitions/termstotransitions/equivalence/RefinablePartitionMarkPinLaw", "<init>", "()V"⟩ : MethodName) = true := by first | exact plainFor_of_name (by first | (simp [plainName, overriddenIn]; done) | decide +kernel) | decide +kernel
set_option maxHeartbeats 4000000 in
theorem own_ef7 (m : MethodId) (x0 : Addr) : entryFrame m #[.ref x0] 1 = mkF m 0 #[.val (.ref x0)] [] := by first | (simp [entryFrame, mkF, argsToLocals, Value.category, maxLocals]; done) | rfl
set_option maxRecDepth 65536 in
set_option maxHeartbeats 40000000 in
theorem own_c7 (l : Launch) (Z : State) (a0 : Array Value) (n0 : Nat) (hw : ∀ d ∈ tables_1, d.before a0 Z = true) (ws : List Jvm.Cond) (o : Addr) (H : own_Hs)  :
    own_Con l Z n0 (⟨"com/example/terms_to_transitions/termstotransitions/equivalence/RefinablePartitionMarkPinLaw", "<init>", "()V"⟩ : MethodName) method_1_code 1 none ws ({ frames := 1, cells := 0, slots := 0, locals := 12 } : Room) #[.ref o] H (fun v H' => v = none ∧ H' = H) := by
  refine own_con own_pn7 (fun m_ => own_ef7 m_ o) ?_
  intro G C
  refine C.aloadN (q := 1) d7_0 rfl rfl rfl ?_
  refine C.initO (q := 4) 0 d7_1 (hw _ (List.mem_of_getElem? (i := 33) rfl)) (hw _ (List.mem_of_getElem? (i := 8) rfl)) (hw _ (List.mem_of_getElem? (i := 9) rfl)) rfl (by decide) (Nat.le_of_eq rfl) (by decide) rfl ?_
  exact C.retV d7_4 (by decide) (by decide) ⟨rfl, rfl⟩
def own_il (el : List Int32) (nb : Int32) : Nat → List Int32 → Int32 → List Int32
  | 0, bl, _ => bl
  | k + 1, bl, j => own_il el nb k (own_s bl (own_g el j) nb) (j + 1)
/-- what the inner loop asks -/
def own_ilB (el : List Int32) (n : Nat) : Nat → Int32 → Bool
  | 0, _ => true
  | k + 1, j => decide (own_ib j el) && decide (¬ own_g el j < 0 ∧ (own_g el j).toNatClampNeg < n) && own_ilB el n k (j + 1)
abbrev own_sl (u : Slot) : Prop := u = .unset ∨ ∃ w : Value, u = .val w ∧ w.category = 1
theorem d8_155 : decode prog_7_method_10_code 155 = .ok (.iload 8, 2) := by decide +kernel
theorem d8_157 : decode prog_7_method_10_code 157 = .ok (.aload_n 0, 1) := by decide +kernel
theorem d8_158 : decode prog_7_method_10_code 158 = .ok (.getfield 22, 3) := by decide +kernel
theorem d8_161 : decode prog_7_method_10_code 161 = .ok (.iload 7, 2) := by decide +kernel
theorem d8_163 : decode prog_7_method_10_code 163 = .ok (.iaload, 1) := by decide +kernel
theorem d8_164 : decode prog_7_method_10_code 164 = .ok (.if_icmp .ge 23, 3) := by decide +kernel
theorem d8_167 : decode prog_7_method_10_code 167 = .ok (.aload_n 0, 1) := by decide +kernel
theorem d8_168 : decode prog_7_method_10_code 168 = .ok (.getfield 16, 3) := by decide +kernel
theorem d8_171 : decode prog_7_method_10_code 171 = .ok (.aload_n 0, 1) := by decide +kernel
theorem d8_172 : decode prog_7_method_10_code 172 = .ok (.getfield 7, 3) := by decide +kernel
theorem d8_175 : decode prog_7_method_10_code 175 = .ok (.iload 8, 2) := by decide +kernel
theorem d8_177 : decode prog_7_method_10_code 177 = .ok (.iaload, 1) := by decide +kernel
theorem d8_178 : decode prog_7_method_10_code 178 = .ok (.iload 7, 2) := by decide +kernel
theorem d8_180 : decode prog_7_method_10_code 180 = .ok (.iastore, 1) := by decide +kernel
theorem d8_181 : decode prog_7_method_10_code 181 = .ok (.iinc 8 1, 3) := by decide +kernel
theorem d8_184 : decode prog_7_method_10_code 184 = .ok (.goto (-29), 3) := by decide +kernel
set_option maxRecDepth 65536 in
theorem own_ti8 {Z : State} {a0 : Array Value} {n0 : Nat} {R : Room} {l : Launch} {Q : Option Value → own_Hs → Prop} {G : Nat → Nat → own_Hs → Nat → List Slot → List Value → Prop} (hw : ∀ d ∈ tables_1, d.before a0 Z = true)
    (C : own_Wk Z n0 R (⟨"com/example/terms_to_transitions/termstotransitions/equivalence/RefinablePartition", "split", "(Lcom/example/terms_to_transitions/termstotransitions/equivalence/RefinablePartition$SplitListener;)V"⟩ : MethodName) prog_7_method_10_code 9 none l Q G) (o ls r0 r1 r2 r3 r4 r5 r6 : Addr) (Hr : own_Hs) (el lo st en me to : List Int32) (tc bc i bk S M E nb : Int32) (bl : List Int32) (j : Int32) (hen : own_ib nb en) (hb : j < own_g en nb → own_ib j el ∧ own_ib (own_g el j) bl)
    (K0 : ¬ j < own_g en nb → G 0 0 ((o, .inr ("com/example/terms_to_transitions/termstotransitions/equivalence/RefinablePartition", [("elements", "[I", .ref r0), ("locations", "[I", .ref r1), ("blocks", "[I", .ref r2), ("starts", "[I", .ref r3), ("ends", "[I", .ref r4), ("markedEnds", "[I", .ref r5), ("touched", "[I", .ref r6), ("blockCount", "I", .int bc), ("touchedCount", "I", .int tc)])) :: (r0, .inl (.int, (own_vl el))) :: (r1, .inl (.int, (own_vl lo))) :: (r2, .inl (.int, (own_vl bl))) :: (r3, .inl (.int, (own_vl st))) :: (r4, .inl (.int, (own_vl en))) :: (r5, .inl (.int, (own_vl me))) :: (r6, .inl (.int, (own_vl to))) :: Hr) 187 [.val (.ref o), .val (.ref ls), .val (.int i), .val (.int bk), .val (.int S), .val (.int M), .val (.int E), .val (.int nb), .val (.int j)] []) (K1 : j < own_g en nb → G 0 0 ((o, .inr ("com/example/terms_to_transitions/termstotransitions/equivalence/RefinablePartition", [("elements", "[I", .ref r0), ("locations", "[I", .ref r1), ("blocks", "[I", .ref r2), ("starts", "[I", .ref r3), ("ends", "[I", .ref r4), ("markedEnds", "[I", .ref r5), ("touched", "[I", .ref r6), ("blockCount", "I", .int bc), ("touchedCount", "I", .int tc)])) :: (r0, .inl (.int, (own_vl el))) :: (r1, .inl (.int, (own_vl lo))) :: (r2, .inl (.int, (own_vl (own_s bl (own_g el j) nb)))) :: (r3, .inl (.int, (own_vl st))) :: (r4, .inl (.int, (own_vl en))) :: (r5, .inl (.int, (own_vl me))) :: (r6, .inl (.int, (own_vl to))) :: Hr) 155 [.val (.ref o), .val (.ref ls), .val (.int i), .val (.int bk), .val (.int S), .val (.int M), .val (.int E), .val (.int nb), .val (.int (j + (1 : Int32)))] []) : G 0 0 ((o, .inr ("com/example/terms_to_transitions/termstotransitions/equivalence/RefinablePartition", [("elements", "[I", .ref r0), ("locations", "[I", .ref r1), ("blocks", "[I", .ref r2), ("starts", "[I", .ref r3), ("ends", "[I", .ref r4), ("markedEnds", "[I", .ref r5), ("touched", "[I", .ref r6), ("blockCount", "I", .int bc), ("touchedCount", "I", .int tc)])) :: (r0, .inl (.int, (own_vl el))) :: (r1, .inl (.int, (own_vl lo))) :: (r2, .inl (.int, (own_vl bl))) :: (r3, .inl (.int, (own_vl st))) :: (r4, .inl (.int, (own_vl en))) :: (r5, .inl (.int, (own_vl me))) :: (r6, .inl (.int, (own_vl to))) :: Hr) 155 [.val (.ref o), .val (.ref ls), .val (.int i), .val (.int bk), .val (.int S), .val (.int M), .val (.int E), .val (.int nb), .val (.int j)] [] := by
  refine C.iload (q := 157) d8_155 rfl rfl ?_
  refine C.aloadN (q := 158) d8_157 rfl rfl rfl ?_
  refine C.getf (q := 161) 0 4 (v := .ref r4) d8_158 (hw _ (List.mem_of_getElem? (i := 19) rfl)) rfl rfl rfl ?_
  refine C.iload (q := 163) d8_161 rfl rfl ?_
  refine C.iaload (q := 164) 5 (v := .int (own_g en nb)) d8_163 rfl hen.1 (own_at' hen) rfl ?_
  refine C.icmpGe (q := 187) (q' := 167) d8_164 (by decide) (by decide) rfl (fun h164 => ?_) (fun h164 => ?_)
  · refine C.aloadN (q := 168) d8_167 rfl rfl rfl ?_
    refine C.getf (q := 171) 0 2 (v := .ref r2) d8_168 (hw _ (List.mem_of_getElem? (i := 15) rfl)) rfl rfl rfl ?_
    refine C.aloadN (q := 172) d8_171 rfl rfl rfl ?_
    refine C.getf (q := 175) 0 0 (v := .ref r0) d8_172 (hw _ (List.mem_of_getElem? (i := 11) rfl)) rfl rfl rfl ?_
    refine C.iload (q := 177) d8_175 rfl rfl ?_
    refine C.iaload (q := 178) 1 (v := .int (own_g el j)) d8_177 rfl (hb h164).1.1 (own_at' (hb h164).1) rfl ?_
    refine C.iload (q := 180) d8_178 rfl rfl ?_
    refine C.iastore (q := 181) 3 (H' := ((o, .inr ("com/example/terms_to_transitions/termstotransitions/equivalence/RefinablePartition", [("elements", "[I", .ref r0), ("locations", "[I", .ref r1), ("blocks", "[I", .ref r2), ("starts", "[I", .ref r3), ("ends", "[I", .ref r4), ("markedEnds", "[I", .ref r5), ("touched", "[I", .ref r6), ("blockCount", "I", .int bc), ("touchedCount", "I", .int tc)])) :: (r0, .inl (.int, (own_vl el))) :: (r1, .inl (.int, (own_vl lo))) :: (r2, .inl (.int, (own_vl (own_s bl (own_g el j) nb)))) :: (r3, .inl (.int, (own_vl st))) :: (r4, .inl (.int, (own_vl en))) :: (r5, .inl (.int, (own_vl me))) :: (r6, .inl (.int, (own_vl to))) :: Hr)) d8_180 rfl (hb h164).2.1 (own_ln' (hb h164).2) (by rw [own_st']; rfl) rfl ?_
    refine C.iinc (q := 184) (z := (1 : Int32)) (ls' := [.val (.ref o), .val (.ref ls), .val (.int i), .val (.int bk), .val (.int S), .val (.int M), .val (.int E), .val (.int nb), .val (.int (j + (1 : Int32)))]) d8_181 rfl rfl rfl rfl ?_
    refine C.goto (q := 155) d8_184 (by decide) (by decide) ?_
    exact K1 h164
  · exact K0 h164
theorem own_lp8 {Z : State} {a0 : Array Value} {n0 : Nat} {R : Room} {l : Launch} {Q : Option Value → own_Hs → Prop} {G : Nat → Nat → own_Hs → Nat → List Slot → List Value → Prop} (hw : ∀ d ∈ tables_1, d.before a0 Z = true)
    (C : own_Wk Z n0 R (⟨"com/example/terms_to_transitions/termstotransitions/equivalence/RefinablePartition", "split", "(Lcom/example/terms_to_transitions/termstotransitions/equivalence/RefinablePartition$SplitListener;)V"⟩ : MethodName) prog_7_method_10_code 9 none l Q G) (o ls r0 r1 r2 r3 r4 r5 r6 : Addr) (Hr : own_Hs) (el lo st en me to : List Int32) (tc bc i bk S M E nb : Int32) (hen : own_ib nb en) :
    ∀ (k : Nat) (bl : List Int32) (j : Int32), j.toInt + k = (own_g en nb).toInt → own_ilB el bl.length k j = true → (∀ z, G 0 0 ((o, .inr ("com/example/terms_to_transitions/termstotransitions/equivalence/RefinablePartition", [("elements", "[I", .ref r0), ("locations", "[I", .ref r1), ("blocks", "[I", .ref r2), ("starts", "[I", .ref r3), ("ends", "[I", .ref r4), ("markedEnds", "[I", .ref r5), ("touched", "[I", .ref r6), ("blockCount", "I", .int bc), ("touchedCount", "I", .int tc)])) :: (r0, .inl (.int, (own_vl el))) :: (r1, .inl (.int, (own_vl lo))) :: (r2, .inl (.int, (own_vl (own_il el nb k bl j)))) :: (r3, .inl (.int, (own_vl st))) :: (r4, .inl (.int, (own_vl en))) :: (r5, .inl (.int, (own_vl me))) :: (r6, .inl (.int, (own_vl to))) :: Hr) 187 [.val (.ref o), .val (.ref ls), .val (.int i), .val (.int bk), .val (.int S), .val (.int M), .val (.int E), .val (.int nb), .val (.int z)] []) → G 0 0 ((o, .inr ("com/example/terms_to_transitions/termstotransitions/equivalence/RefinablePartition", [("elements", "[I", .ref r0), ("locations", "[I", .ref r1), ("blocks", "[I", .ref r2), ("starts", "[I", .ref r3), ("ends", "[I", .ref r4), ("markedEnds", "[I", .ref r5), ("touched", "[I", .ref r6), ("blockCount", "I", .int bc), ("touchedCount", "I", .int tc)])) :: (r0, .inl (.int, (own_vl el))) :: (r1, .inl (.int, (own_vl lo))) :: (r2, .inl (.int, (own_vl bl))) :: (r3, .inl (.int, (own_vl st))) :: (r4, .inl (.int, (own_vl en))) :: (r5, .inl (.int, (own_vl me))) :: (r6, .inl (.int, (own_vl to))) :: Hr) 155 [.val (.ref o), .val (.ref ls), .val (.int i), .val (.int bk), .val (.int S), .val (.int M), .val (.int E), .val (.int nb), .val (.int j)] [] := by
  intro k
  induction k with
  | zero =>
    intro bl j hj _ K
    have hn : ¬ j < own_g en nb := by rw [Int32.lt_iff_toInt_lt]; omega
    exact own_ti8 hw C o ls r0 r1 r2 r3 r4 r5 r6 Hr el lo st en me to tc bc i bk S M E nb bl j hen (fun z => absurd z hn) (fun _ => K _) (fun z => absurd z hn)
  | succ k ih =>
    intro bl j hj hB K
    have hy : j < own_g en nb := by rw [Int32.lt_iff_toInt_lt]; omega
    simp only [own_ilB, Bool.and_eq_true, decide_eq_true_eq] at hB
    refine own_ti8 hw C o ls r0 r1 r2 r3 r4 r5 r6 Hr el lo st en me to tc bc i bk S M E nb bl j hen (fun _ => ⟨hB.1.1, hB.1.2⟩) (fun z => absurd hy z) (fun _ => ?_)
    have a := c_iadd j 1; have r := rng32 (j + 1); have r2 := rng32 (own_g en nb); have r3 := rng32 j
    simp only [Int32.reduceToInt] at a
    refine ih (own_s bl (own_g el j) nb) (j + 1) (by omega) ?_ K
    rw [show (own_s bl (own_g el j) nb).length = bl.length from List.length_set]
    exact hB.2
def own_sp1 (s : own_RP) (i : Int32) : own_RP := match s with
  | (el, lo, bl, st, en, me, to, tc, bc) => if (own_g me (own_g to i)) < (own_g en (own_g to i)) then (if ((own_g en (own_g to i)) - (own_g me (own_g to i))) < ((own_g me (own_g to i)) - (own_g st (own_g to i))) then (el, lo, (own_il el bc ((own_g (own_s (own_s en bc (own_g en (own_g to i))) (own_g to i) (own_g me (own_g to i))) bc).toInt - (own_g (own_s st bc (own_g me (own_g to i))) bc).toInt).toNat bl (own_g (own_s st bc (own_g me (own_g to i))) bc)), (own_s st bc (own_g me (own_g to i))), (own_s (own_s en bc (own_g en (own_g to i))) (own_g to i) (own_g me (own_g to i))), (own_s (own_s me bc (own_g (own_s st bc (own_g me (own_g to i))) bc)) (own_g to i) (own_g (own_s st bc (own_g me (own_g to i))) (own_g to i))), to, tc, bc + 1) else (el, lo, (own_il el bc ((own_g (own_s en bc (own_g me (own_g to i))) bc).toInt - (own_g (own_s (own_s st bc (own_g st (own_g to i))) (own_g to i) (own_g me (own_g to i))) bc).toInt).toNat bl (own_g (own_s (own_s st bc (own_g st (own_g to i))) (own_g to i) (own_g me (own_g to i))) bc)), (own_s (own_s st bc (own_g st (own_g to i))) (own_g to i) (own_g me (own_g to i))), (own_s en bc (own_g me (own_g to i))), (own_s (own_s me bc (own_g (own_s (own_s st bc (own_g st (own_g to i))) (own_g to i) (own_g me (own_g to i))) bc)) (own_g to i) (own_g (own_s (own_s st bc (own_g st (own_g to i))) (own_g to i) (own_g me (own_g to i))) (own_g to i))), to, tc, bc + 1)) else (el, lo, bl, st, en, (own_s me (own_g to i) (own_g st (own_g to i))), to, tc, bc)
def own_sp1P (s : own_RP) (i : Int32) : Bool := match s with
  | (el, lo, bl, st, en, me, to, tc, bc) => decide (own_ib i to ∧ own_ib (own_g to i) st ∧ own_ib (own_g to i) me ∧ own_ib (own_g to i) en ∧ ((own_g me (own_g to i)) < (own_g en (own_g to i)) → own_ib bc st ∧ own_ib bc en ∧ own_ib bc me ∧ (((own_g en (own_g to i)) - (own_g me (own_g to i))) < ((own_g me (own_g to i)) - (own_g st (own_g to i))) → ((own_g (own_s st bc (own_g me (own_g to i))) bc).toInt ≤ (own_g (own_s (own_s en bc (own_g en (own_g to i))) (own_g to i) (own_g me (own_g to i))) bc).toInt ∧ own_ilB el bl.length ((own_g (own_s (own_s en bc (own_g en (own_g to i))) (own_g to i) (own_g me (own_g to i))) bc).toInt - (own_g (own_s st bc (own_g me (own_g to i))) bc).toInt).toNat (own_g (own_s st bc (own_g me (own_g to i))) bc) = true)) ∧ (¬ ((own_g en (own_g to i)) - (own_g me (own_g to i))) < ((own_g me (own_g to i)) - (own_g st (own_g to i))) → ((own_g (own_s (own_s st bc (own_g st (own_g to i))) (own_g to i) (own_g me (own_g to i))) bc).toInt ≤ (own_g (own_s en bc (own_g me (own_g to i))) bc).toInt ∧ own_ilB el bl.length ((own_g (own_s en bc (own_g me (own_g to i))) bc).toInt - (own_g (own_s (own_s st bc (own_g st (own_g to i))) (own_g to i) (own_g me (own_g to i))) bc).toInt).toNat (own_g (own_s (own_s st bc (own_g st (own_g to i))) (own_g to i) (own_g me (own_g to i))) bc) = true))))
def own_spl : Nat → own_RP → Int32 → own_RP
  | 0, s, _ => s
  | k + 1, s, i => own_spl k (own_sp1 s i) (i + 1)
def own_splB : Nat → own_RP → Int32 → Bool
  | 0, _, _ => true
  | k + 1, s, i => own_sp1P s i && own_splB k (own_sp1 s i) (i + 1)
theorem own_sp1_tc (s : own_RP) (i : Int32) : (own_sp1 s i).2.2.2.2.2.2.2.1 = s.2.2.2.2.2.2.2.1 := by
  obtain ⟨el, lo, bl, st, en, me, to, tc, bc⟩ := s
  simp only [own_sp1]
  split
  · split <;> rfl
  · rfl
def own_split (s : own_RP) : own_RP := match own_spl s.2.2.2.2.2.2.2.1.toInt.toNat s 0 with
  | (el, lo, bl, st, en, me, to, tc, bc) => (el, lo, bl, st, en, me, to, 0, bc)
theorem d8_2 : decode prog_7_method_10_code 2 = .ok (.iload_n 2, 1) := by decide +kernel
theorem d8_3 : decode prog_7_method_10_code 3 = .ok (.aload_n 0, 1) := by decide +kernel
theorem d8_4 : decode prog_7_method_10_code 4 = .ok (.getfield 35, 3) := by decide +kernel
theorem d8_7 : decode prog_7_method_10_code 7 = .ok (.if_icmp .ge 207, 3) := by decide +kernel
theorem d8_10 : decode prog_7_method_10_code 10 = .ok (.aload_n 0, 1) := by decide +kernel
theorem d8_11 : decode prog_7_method_10_code 11 = .ok (.getfield 28, 3) := by decide +kernel
theorem d8_14 : decode prog_7_method_10_code 14 = .ok (.iload_n 2, 1) := by decide +kernel
theorem d8_15 : decode prog_7_method_10_code 15 = .ok (.iaload, 1) := by decide +kernel
theorem d8_16 : decode prog_7_method_10_code 16 = .ok (.istore_n 3, 1) := by decide +kernel
theorem d8_17 : decode prog_7_method_10_code 17 = .ok (.aload_n 0, 1) := by decide +kernel
theorem d8_18 : decode prog_7_method_10_code 18 = .ok (.getfield 19, 3) := by decide +kernel
theorem d8_21 : decode prog_7_method_10_code 21 = .ok (.iload_n 3, 1) := by decide +kernel
theorem d8_22 : decode prog_7_method_10_code 22 = .ok (.iaload, 1) := by decide +kernel
theorem d8_23 : decode prog_7_method_10_code 23 = .ok (.istore 4, 2) := by decide +kernel
theorem d8_25 : decode prog_7_method_10_code 25 = .ok (.aload_n 0, 1) := by decide +kernel
theorem d8_26 : decode prog_7_method_10_code 26 = .ok (.getfield 25, 3) := by decide +kernel
theorem d8_29 : decode prog_7_method_10_code 29 = .ok (.iload_n 3, 1) := by decide +kernel
theorem d8_30 : decode prog_7_method_10_code 30 = .ok (.iaload, 1) := by decide +kernel
theorem d8_31 : decode prog_7_method_10_code 31 = .ok (.istore 5, 2) := by decide +kernel
theorem d8_33 : decode prog_7_method_10_code 33 = .ok (.aload_n 0, 1) := by decide +kernel
theorem d8_34 : decode prog_7_method_10_code 34 = .ok (.getfield 22, 3) := by decide +kernel
theorem d8_37 : decode prog_7_method_10_code 37 = .ok (.iload_n 3, 1) := by decide +kernel
theorem d8_38 : decode prog_7_method_10_code 38 = .ok (.iaload, 1) := by decide +kernel
theorem d8_39 : decode prog_7_method_10_code 39 = .ok (.istore 6, 2) := by decide +kernel
theorem d8_41 : decode prog_7_method_10_code 41 = .ok (.iload 5, 2) := by decide +kernel
theorem d8_43 : decode prog_7_method_10_code 43 = .ok (.iload 6, 2) := by decide +kernel
theorem d8_45 : decode prog_7_method_10_code 45 = .ok (.if_icmp .ge 151, 3) := by decide +kernel
theorem d8_48 : decode prog_7_method_10_code 48 = .ok (.aload_n 0, 1) := by decide +kernel
theorem d8_49 : decode prog_7_method_10_code 49 = .ok (.getfield 31, 3) := by decide +kernel
theorem d8_52 : decode prog_7_method_10_code 52 = .ok (.istore 7, 2) := by decide +kernel
theorem d8_54 : decode prog_7_method_10_code 54 = .ok (.aload_n 0, 1) := by decide +kernel
theorem d8_55 : decode prog_7_method_10_code 55 = .ok (.dup, 1) := by decide +kernel
theorem d8_56 : decode prog_7_method_10_code 56 = .ok (.getfield 31, 3) := by decide +kernel
theorem d8_59 : decode prog_7_method_10_code 59 = .ok (.iconst 1, 1) := by decide +kernel
theorem d8_60 : decode prog_7_method_10_code 60 = .ok (.iadd, 1) := by decide +kernel
theorem d8_61 : decode prog_7_method_10_code 61 = .ok (.putfield 31, 3) := by decide +kernel
theorem d8_64 : decode prog_7_method_10_code 64 = .ok (.iload 5, 2) := by decide +kernel
theorem d8_66 : decode prog_7_method_10_code 66 = .ok (.iload 4, 2) := by decide +kernel
theorem d8_68 : decode prog_7_method_10_code 68 = .ok (.isub, 1) := by decide +kernel
theorem d8_69 : decode prog_7_method_10_code 69 = .ok (.iload 6, 2) := by decide +kernel
theorem d8_71 : decode prog_7_method_10_code 71 = .ok (.iload 5, 2) := by decide +kernel
theorem d8_73 : decode prog_7_method_10_code 73 = .ok (.isub, 1) := by decide +kernel
theorem d8_74 : decode prog_7_method_10_code 74 = .ok (.if_icmp .gt 32, 3) := by decide +kernel
theorem d8_77 : decode prog_7_method_10_code 77 = .ok (.aload_n 0, 1) := by decide +kernel
theorem d8_78 : decode prog_7_method_10_code 78 = .ok (.getfield 19, 3) := by decide +kernel
theorem d8_81 : decode prog_7_method_10_code 81 = .ok (.iload 7, 2) := by decide +kernel
theorem d8_83 : decode prog_7_method_10_code 83 = .ok (.iload 4, 2) := by decide +kernel
theorem d8_85 : decode prog_7_method_10_code 85 = .ok (.iastore, 1) := by decide +kernel
theorem d8_86 : decode prog_7_method_10_code 86 = .ok (.aload_n 0, 1) := by decide +kernel
theorem d8_87 : decode prog_7_method_10_code 87 = .ok (.getfield 22, 3) := by decide +kernel
theorem d8_90 : decode prog_7_method_10_code 90 = .ok (.iload 7, 2) := by decide +kernel
theorem d8_92 : decode prog_7_method_10_code 92 = .ok (.iload 5, 2) := by decide +kernel
theorem d8_94 : decode prog_7_method_10_code 94 = .ok (.iastore, 1) := by decide +kernel
theorem d8_95 : decode prog_7_method_10_code 95 = .ok (.aload_n 0, 1) := by decide +kernel
theorem d8_96 : decode prog_7_method_10_code 96 = .ok (.getfield 19, 3) := by decide +kernel
theorem d8_99 : decode prog_7_method_10_code 99 = .ok (.iload_n 3, 1) := by decide +kernel
theorem d8_100 : decode prog_7_method_10_code 100 = .ok (.iload 5, 2) := by decide +kernel
theorem d8_102 : decode prog_7_method_10_code 102 = .ok (.iastore, 1) := by decide +kernel
theorem d8_103 : decode prog_7_method_10_code 103 = .ok (.goto 29, 3) := by decide +kernel
theorem d8_106 : decode prog_7_method_10_code 106 = .ok (.aload_n 0, 1) := by decide +kernel
theorem d8_107 : decode prog_7_method_10_code 107 = .ok (.getfield 19, 3) := by decide +kernel
theorem d8_110 : decode prog_7_method_10_code 110 = .ok (.iload 7, 2) := by decide +kernel
theorem d8_112 : decode prog_7_method_10_code 112 = .ok (.iload 5, 2) := by decide +kernel
theorem d8_114 : decode prog_7_method_10_code 114 = .ok (.iastore, 1) := by decide +kernel
theorem d8_115 : decode prog_7_method_10_code 115 = .ok (.aload_n 0, 1) := by decide +kernel
theorem d8_116 : decode prog_7_method_10_code 116 = .ok (.getfield 22, 3) := by decide +kernel
theorem d8_119 : decode prog_7_method_10_code 119 = .ok (.iload 7, 2) := by decide +kernel
theorem d8_121 : decode prog_7_method_10_code 121 = .ok (.iload 6, 2) := by decide +kernel
theorem d8_123 : decode prog_7_method_10_code 123 = .ok (.iastore, 1) := by decide +kernel
theorem d8_124 : decode prog_7_method_10_code 124 = .ok (.aload_n 0, 1) := by decide +kernel
theorem d8_125 : decode prog_7_method_10_code 125 = .ok (.getfield 22, 3) := by decide +kernel
theorem d8_128 : decode prog_7_method_10_code 128 = .ok (.iload_n 3, 1) := by decide +kernel
theorem d8_129 : decode prog_7_method_10_code 129 = .ok (.iload 5, 2) := by decide +kernel
theorem d8_131 : decode prog_7_method_10_code 131 = .ok (.iastore, 1) := by decide +kernel
theorem d8_132 : decode prog_7_method_10_code 132 = .ok (.aload_n 0, 1) := by decide +kernel
theorem d8_133 : decode prog_7_method_10_code 133 = .ok (.getfield 25, 3) := by decide +kernel
theorem d8_136 : decode prog_7_method_10_code 136 = .ok (.iload 7, 2) := by decide +kernel
theorem d8_138 : decode prog_7_method_10_code 138 = .ok (.aload_n 0, 1) := by decide +kernel
theorem d8_139 : decode prog_7_method_10_code 139 = .ok (.getfield 19, 3) := by decide +kernel
theorem d8_142 : decode prog_7_method_10_code 142 = .ok (.iload 7, 2) := by decide +kernel
theorem d8_144 : decode prog_7_method_10_code 144 = .ok (.iaload, 1) := by decide +kernel
theorem d8_145 : decode prog_7_method_10_code 145 = .ok (.iastore, 1) := by decide +kernel
theorem d8_146 : decode prog_7_method_10_code 146 = .ok (.aload_n 0, 1) := by decide +kernel
theorem d8_147 : decode prog_7_method_10_code 147 = .ok (.getfield 19, 3) := by decide +kernel
theorem d8_150 : decode prog_7_method_10_code 150 = .ok (.iload 7, 2) := by decide +kernel
theorem d8_152 : decode prog_7_method_10_code 152 = .ok (.iaload, 1) := by decide +kernel
theorem d8_153 : decode prog_7_method_10_code 153 = .ok (.istore 8, 2) := by decide +kernel
theorem d8_187 : decode prog_7_method_10_code 187 = .ok (.aload_n 1, 1) := by decide +kernel
theorem d8_188 : decode prog_7_method_10_code 188 = .ok (.iload_n 3, 1) := by decide +kernel
theorem d8_189 : decode prog_7_method_10_code 189 = .ok (.iload 7, 2) := by decide +kernel
theorem d8_191 : decode prog_7_method_10_code 191 = .ok (.invokeinterface 38 3, 5) := by decide +kernel
theorem d8_196 : decode prog_7_method_10_code 196 = .ok (.aload_n 0, 1) := by decide +kernel
theorem d8_197 : decode prog_7_method_10_code 197 = .ok (.getfield 25, 3) := by decide +kernel
theorem d8_200 : decode prog_7_method_10_code 200 = .ok (.iload_n 3, 1) := by decide +kernel
theorem d8_201 : decode prog_7_method_10_code 201 = .ok (.aload_n 0, 1) := by decide +kernel
theorem d8_202 : decode prog_7_method_10_code 202 = .ok (.getfield 19, 3) := by decide +kernel
theorem d8_205 : decode prog_7_method_10_code 205 = .ok (.iload_n 3, 1) := by decide +kernel
theorem d8_206 : decode prog_7_method_10_code 206 = .ok (.iaload, 1) := by decide +kernel
theorem d8_207 : decode prog_7_method_10_code 207 = .ok (.iastore, 1) := by decide +kernel
theorem d8_208 : decode prog_7_method_10_code 208 = .ok (.iinc 2 1, 3) := by decide +kernel
theorem d8_211 : decode prog_7_method_10_code 211 = .ok (.goto (-209), 3) := by decide +kernel
set_option maxRecDepth 65536 in
set_option maxHeartbeats 40000000 in
theorem own_to8 {Z : State} {a0 : Array Value} {n0 : Nat}  {l : Launch} {Q : Option Value → own_Hs → Prop} {G : Nat → Nat → own_Hs → Nat → List Slot → List Value → Prop} (hw : ∀ d ∈ tables_1, d.before a0 Z = true)
    (C : own_Wk Z n0 ({ frames := 1, cells := 0, slots := 0, locals := 24 } : Room) (⟨"com/example/terms_to_transitions/termstotransitions/equivalence/RefinablePartition", "split", "(Lcom/example/terms_to_transitions/termstotransitions/equivalence/RefinablePartition$SplitListener;)V"⟩ : MethodName) prog_7_method_10_code 9 none l Q G) (o ls r0 r1 r2 r3 r4 r5 r6 : Addr) (Ht : own_Hs) (el lo bl st en me to : List Int32) (tc bc i : Int32) (u3 u4 u5 u6 u7 u8 : Slot) (hu3 : own_sl u3) (hu4 : own_sl u4) (hu5 : own_sl u5) (hu6 : own_sl u6) (hu7 : own_sl u7) (hu8 : own_sl u8) (ok : i < tc → own_ib i to ∧ own_ib (own_g to i) st ∧ own_ib (own_g to i) me ∧ own_ib (own_g to i) en ∧ ((own_g me (own_g to i)) < (own_g en (own_g to i)) → own_ib bc st ∧ own_ib bc en ∧ own_ib bc me ∧ (((own_g en (own_g to i)) - (own_g me (own_g to i))) < ((own_g me (own_g to i)) - (own_g st (own_g to i))) → ((own_g (own_s st bc (own_g me (own_g to i))) bc).toInt ≤ (own_g (own_s (own_s en bc (own_g en (own_g to i))) (own_g to i) (own_g me (own_g to i))) bc).toInt ∧ own_ilB el bl.length ((own_g (own_s (own_s en bc (own_g en (own_g to i))) (own_g to i) (own_g me (own_g to i))) bc).toInt - (own_g (own_s st bc (own_g me (own_g to i))) bc).toInt).toNat (own_g (own_s st bc (own_g me (own_g to i))) bc) = true)) ∧ (¬ ((own_g en (own_g to i)) - (own_g me (own_g to i))) < ((own_g me (own_g to i)) - (own_g st (own_g to i))) → ((own_g (own_s (own_s st bc (own_g st (own_g to i))) (own_g to i) (own_g me (own_g to i))) bc).toInt ≤ (own_g (own_s en bc (own_g me (own_g to i))) bc).toInt ∧ own_ilB el bl.length ((own_g (own_s en bc (own_g me (own_g to i))) bc).toInt - (own_g (own_s (own_s st bc (own_g st (own_g to i))) (own_g to i) (own_g me (own_g to i))) bc).toInt).toNat (own_g (own_s (own_s st bc (own_g st (own_g to i))) (own_g to i) (own_g me (own_g to i))) bc) = true))))
    (K0 : ¬ i < tc → G 0 0 ((o, .inr ("com/example/terms_to_transitions/termstotransitions/equivalence/RefinablePartition", [("elements", "[I", .ref r0), ("locations", "[I", .ref r1), ("blocks", "[I", .ref r2), ("starts", "[I", .ref r3), ("ends", "[I", .ref r4), ("markedEnds", "[I", .ref r5), ("touched", "[I", .ref r6), ("blockCount", "I", .int bc), ("touchedCount", "I", .int tc)])) :: (r0, .inl (.int, (own_vl el))) :: (r1, .inl (.int, (own_vl lo))) :: (r2, .inl (.int, (own_vl bl))) :: (r3, .inl (.int, (own_vl st))) :: (r4, .inl (.int, (own_vl en))) :: (r5, .inl (.int, (own_vl me))) :: (r6, .inl (.int, (own_vl to))) :: (ls, .inr ("com/example/terms_to_transitions/termstotransitions/equivalence/RefinablePartitionMarkPinLaw", [])) :: Ht) 214 [.val (.ref o), .val (.ref ls), .val (.int i), u3, u4, u5, u6, u7, u8] []) (K1 : i < tc → ∀ v3 v4 v5 v6 v7 v8 : Slot, own_sl v3 → own_sl v4 → own_sl v5 → own_sl v6 → own_sl v7 → own_sl v8 → G 0 0 ((o, .inr ("com/example/terms_to_transitions/termstotransitions/equivalence/RefinablePartition", [("elements", "[I", .ref r0), ("locations", "[I", .ref r1), ("blocks", "[I", .ref r2), ("starts", "[I", .ref r3), ("ends", "[I", .ref r4), ("markedEnds", "[I", .ref r5), ("touched", "[I", .ref r6), ("blockCount", "I", .int ((own_sp1 (el, lo, bl, st, en, me, to, tc, bc) i).2.2.2.2.2.2.2.2)), ("touchedCount", "I", .int ((own_sp1 (el, lo, bl, st, en, me, to, tc, bc) i).2.2.2.2.2.2.2.1))])) :: (r0, .inl (.int, (own_vl (own_sp1 (el, lo, bl, st, en, me, to, tc, bc) i).1))) :: (r1, .inl (.int, (own_vl (own_sp1 (el, lo, bl, st, en, me, to, tc, bc) i).2.1))) :: (r2, .inl (.int, (own_vl (own_sp1 (el, lo, bl, st, en, me, to, tc, bc) i).2.2.1))) :: (r3, .inl (.int, (own_vl (own_sp1 (el, lo, bl, st, en, me, to, tc, bc) i).2.2.2.1))) :: (r4, .inl (.int, (own_vl (own_sp1 (el, lo, bl, st, en, me, to, tc, bc) i).2.2.2.2.1))) :: (r5, .inl (.int, (own_vl (own_sp1 (el, lo, bl, st, en, me, to, tc, bc) i).2.2.2.2.2.1))) :: (r6, .inl (.int, (own_vl (own_sp1 (el, lo, bl, st, en, me, to, tc, bc) i).2.2.2.2.2.2.1))) :: (ls, .inr ("com/example/terms_to_transitions/termstotransitions/equivalence/RefinablePartitionMarkPinLaw", [])) :: Ht) 2 [.val (.ref o), .val (.ref ls), .val (.int (i + (1 : Int32))), v3, v4, v5, v6, v7, v8] []) : G 0 0 ((o, .inr ("com/example/terms_to_transitions/termstotransitions/equivalence/RefinablePartition", [("elements", "[I", .ref r0), ("locations", "[I", .ref r1), ("blocks", "[I", .ref r2), ("starts", "[I", .ref r3), ("ends", "[I", .ref r4), ("markedEnds", "[I", .ref r5), ("touched", "[I", .ref r6), ("blockCount", "I", .int bc), ("touchedCount", "I", .int tc)])) :: (r0, .inl (.int, (own_vl el))) :: (r1, .inl (.int, (own_vl lo))) :: (r2, .inl (.int, (own_vl bl))) :: (r3, .inl (.int, (own_vl st))) :: (r4, .inl (.int, (own_vl en))) :: (r5, .inl (.int, (own_vl me))) :: (r6, .inl (.int, (own_vl to))) :: (ls, .inr ("com/example/terms_to_transitions/termstotransitions/equivalence/RefinablePartitionMarkPinLaw", [])) :: Ht) 2 [.val (.ref o), .val (.ref ls), .val (.int i), u3, u4, u5, u6, u7, u8] [] := by
  refine C.iloadN (q := 3) d8_2 rfl rfl ?_
  refine C.aloadN (q := 4) d8_3 rfl rfl rfl ?_
  refine C.getf (q := 7) 0 8 (v := .int tc) d8_4 (hw _ (List.mem_of_getElem? (i := 39) rfl)) rfl rfl rfl ?_
  refine C.icmpGe (q := 214) (q' := 10) d8_7 (by decide) (by decide) rfl (fun h7 => ?_) (fun h7 => ?_)
  · refine C.aloadN (q := 11) d8_10 rfl rfl rfl ?_
    refine C.getf (q := 14) 0 6 (v := .ref r6) d8_11 (hw _ (List.mem_of_getElem? (i := 23) rfl)) rfl rfl rfl ?_
    refine C.iloadN (q := 15) d8_14 rfl rfl ?_
    refine C.iaload (q := 16) 7 (v := .int (own_g to i)) d8_15 rfl (show own_ib _ _ from (ok h7).1).1 (own_at' (ok h7).1) rfl ?_
    refine C.istoreN (q := 17) (ls' := [.val (.ref o), .val (.ref ls), .val (.int i), .val (.int (own_g to i)), u4, u5, u6, u7, u8]) d8_16 (XS.store1 rfl hu3 rfl) rfl ?_
    refine C.aloadN (q := 18) d8_17 rfl rfl rfl ?_
    refine C.getf (q := 21) 0 3 (v := .ref r3) d8_18 (hw _ (List.mem_of_getElem? (i := 17) rfl)) rfl rfl rfl ?_
    refine C.iloadN (q := 22) d8_21 rfl rfl ?_
    refine C.iaload (q := 23) 4 (v := .int (own_g st (own_g to i))) d8_22 rfl (show own_ib _ _ from (ok h7).2.1).1 (own_at' (ok h7).2.1) rfl ?_
    refine C.istore (q := 25) (ls' := [.val (.ref o), .val (.ref ls), .val (.int i), .val (.int (own_g to i)), .val (.int (own_g st (own_g to i))), u5, u6, u7, u8]) d8_23 (XS.store1 rfl hu4 rfl) rfl ?_
    refine C.aloadN (q := 26) d8_25 rfl rfl rfl ?_
    refine C.getf (q := 29) 0 5 (v := .ref r5) d8_26 (hw _ (List.mem_of_getElem? (i := 21) rfl)) rfl rfl rfl ?_
    refine C.iloadN (q := 30) d8_29 rfl rfl ?_
    refine C.iaload (q := 31) 6 (v := .int (own_g me (own_g to i))) d8_30 rfl (show own_ib _ _ from (ok h7).2.2.1).1 (own_at' (ok h7).2.2.1) rfl ?_
    refine C.istore (q := 33) (ls' := [.val (.ref o), .val (.ref ls), .val (.int i), .val (.int (own_g to i)), .val (.int (own_g st (own_g to i))), .val (.int (own_g me (own_g to i))), u6, u7, u8]) d8_31 (XS.store1 rfl hu5 rfl) rfl ?_
    refine C.aloadN (q := 34) d8_33 rfl rfl rfl ?_
    refine C.getf (q := 37) 0 4 (v := .ref r4) d8_34 (hw _ (List.mem_of_getElem? (i := 19) rfl)) rfl rfl rfl ?_
    refine C.iloadN (q := 38) d8_37 rfl rfl ?_
    refine C.iaload (q := 39) 5 (v := .int (own_g en (own_g to i))) d8_38 rfl (show own_ib _ _ from (ok h7).2.2.2.1).1 (own_at' (ok h7).2.2.2.1) rfl ?_
    refine C.istore (q := 41) (ls' := [.val (.ref o), .val (.ref ls), .val (.int i), .val (.int (own_g to i)), .val (.int (own_g st (own_g to i))), .val (.int (own_g me (own_g to i))), .val (.int (own_g en (own_g to i))), u7, u8]) d8_39 (XS.store1 rfl hu6 rfl) rfl ?_
    refine C.iload (q := 43) d8_41 rfl rfl ?_
    refine C.iload (q := 45) d8_43 rfl rfl ?_
    refine C.icmpGe (q := 196) (q' := 48) d8_45 (by decide) (by decide) rfl (fun h45 => ?_) (fun h45 => ?_)
    · refine C.aloadN (q := 49) d8_48 rfl rfl rfl ?_
      refine C.getf (q := 52) 0 7 (v := .int bc) d8_49 (hw _ (List.mem_of_getElem? (i := 25) rfl)) rfl rfl rfl ?_
      refine C.istore (q := 54) (ls' := [.val (.ref o), .val (.ref ls), .val (.int i), .val (.int (own_g to i)), .val (.int (own_g st (own_g to i))), .val (.int (own_g me (own_g to i))), .val (.int (own_g en (own_g to i))), .val (.int bc), u8]) d8_52 (XS.store1 rfl hu7 rfl) rfl ?_
      refine C.aloadN (q := 55) d8_54 rfl rfl rfl ?_
      refine C.dup (q := 56) d8_55 rfl rfl ?_
      refine C.getf (q := 59) 0 7 (v := .int bc) d8_56 (hw _ (List.mem_of_getElem? (i := 25) rfl)) rfl rfl rfl ?_
      refine C.iconst (q := 60) (z := (1 : Int32)) d8_59 rfl rfl ?_
      refine C.iadd (q := 61) d8_60 rfl ?_
      refine C.putf (q := 64) 0 7 (ty := .int) (H' := ((o, .inr ("com/example/terms_to_transitions/termstotransitions/equivalence/RefinablePartition", [("elements", "[I", .ref r0), ("locations", "[I", .ref r1), ("blocks", "[I", .ref r2), ("starts", "[I", .ref r3), ("ends", "[I", .ref r4), ("markedEnds", "[I", .ref r5), ("touched", "[I", .ref r6), ("blockCount", "I", .int (bc + (1 : Int32))), ("touchedCount", "I", .int tc)])) :: (r0, .inl (.int, (own_vl el))) :: (r1, .inl (.int, (own_vl lo))) :: (r2, .inl (.int, (own_vl bl))) :: (r3, .inl (.int, (own_vl st))) :: (r4, .inl (.int, (own_vl en))) :: (r5, .inl (.int, (own_vl me))) :: (r6, .inl (.int, (own_vl to))) :: (ls, .inr ("com/example/terms_to_transitions/termstotransitions/equivalence/RefinablePartitionMarkPinLaw", [])) :: Ht)) d8_61 (hw _ (List.mem_of_getElem? (i := 25) rfl)) (Or.inl (hw _ (List.mem_of_getElem? (i := 26) rfl))) (hw _ (List.mem_of_getElem? (i := 2) rfl)) rfl rfl (by decide) rfl rfl rfl rfl ?_
      refine C.iload (q := 66) d8_64 rfl rfl ?_
      refine C.iload (q := 68) d8_66 rfl rfl ?_
      refine C.isub (q := 69) d8_68 rfl ?_
      refine C.iload (q := 71) d8_69 rfl rfl ?_
      refine C.iload (q := 73) d8_71 rfl rfl ?_
      refine C.isub (q := 74) d8_73 rfl ?_
      refine C.icmpGt (q := 106) (q' := 77) d8_74 (by decide) (by decide) rfl (fun h74 => ?_) (fun h74 => ?_)
      · refine C.aloadN (q := 107) d8_106 rfl rfl rfl ?_
        refine C.getf (q := 110) 0 3 (v := .ref r3) d8_107 (hw _ (List.mem_of_getElem? (i := 17) rfl)) rfl rfl rfl ?_
        refine C.iload (q := 112) d8_110 rfl rfl ?_
        refine C.iload (q := 114) d8_112 rfl rfl ?_
        refine C.iastore (q := 115) 4 (H' := ((o, .inr ("com/example/terms_to_transitions/termstotransitions/equivalence/RefinablePartition", [("elements", "[I", .ref r0), ("locations", "[I", .ref r1), ("blocks", "[I", .ref r2), ("starts", "[I", .ref r3), ("ends", "[I", .ref r4), ("markedEnds", "[I", .ref r5), ("touched", "[I", .ref r6), ("blockCount", "I", .int (bc + (1 : Int32))), ("touchedCount", "I", .int tc)])) :: (r0, .inl (.int, (own_vl el))) :: (r1, .inl (.int, (own_vl lo))) :: (r2, .inl (.int, (own_vl bl))) :: (r3, .inl (.int, (own_vl (own_s st bc (own_g me (own_g to i)))))) :: (r4, .inl (.int, (own_vl en))) :: (r5, .inl (.int, (own_vl me))) :: (r6, .inl (.int, (own_vl to))) :: (ls, .inr ("com/example/terms_to_transitions/termstotransitions/equivalence/RefinablePartitionMarkPinLaw", [])) :: Ht)) d8_114 rfl (show own_ib _ st from (by first | exact ((ok h7).2.2.2.2 h45).1 | exact own_ibs ((ok h7).2.2.2.2 h45).1 _ _ | exact own_ibs (own_ibs ((ok h7).2.2.2.2 h45).1 _ _) _ _)).1 (own_ln' (show own_ib _ st from (by first | exact ((ok h7).2.2.2.2 h45).1 | exact own_ibs ((ok h7).2.2.2.2 h45).1 _ _ | exact own_ibs (own_ibs ((ok h7).2.2.2.2 h45).1 _ _) _ _))) (by rw [own_st']; rfl) rfl ?_
        refine C.aloadN (q := 116) d8_115 rfl rfl rfl ?_
        refine C.getf (q := 119) 0 4 (v := .ref r4) d8_116 (hw _ (List.mem_of_getElem? (i := 19) rfl)) rfl rfl rfl ?_
        refine C.iload (q := 121) d8_119 rfl rfl ?_
        refine C.iload (q := 123) d8_121 rfl rfl ?_
        refine C.iastore (q := 124) 5 (H' := ((o, .inr ("com/example/terms_to_transitions/termstotransitions/equivalence/RefinablePartition", [("elements", "[I", .ref r0), ("locations", "[I", .ref r1), ("blocks", "[I", .ref r2), ("starts", "[I", .ref r3), ("ends", "[I", .ref r4), ("markedEnds", "[I", .ref r5), ("touched", "[I", .ref r6), ("blockCount", "I", .int (bc + (1 : Int32))), ("touchedCount", "I", .int tc)])) :: (r0, .inl (.int, (own_vl el))) :: (r1, .inl (.int, (own_vl lo))) :: (r2, .inl (.int, (own_vl bl))) :: (r3, .inl (.int, (own_vl (own_s st bc (own_g me (own_g to i)))))) :: (r4, .inl (.int, (own_vl (own_s en bc (own_g en (own_g to i)))))) :: (r5, .inl (.int, (own_vl me))) :: (r6, .inl (.int, (own_vl to))) :: (ls, .inr ("com/example/terms_to_transitions/termstotransitions/equivalence/RefinablePartitionMarkPinLaw", [])) :: Ht)) d8_123 rfl (show own_ib _ en from (by first | exact ((ok h7).2.2.2.2 h45).2.1 | exact own_ibs ((ok h7).2.2.2.2 h45).2.1 _ _ | exact own_ibs (own_ibs ((ok h7).2.2.2.2 h45).2.1 _ _) _ _)).1 (own_ln' (show own_ib _ en from (by first | exact ((ok h7).2.2.2.2 h45).2.1 | exact own_ibs ((ok h7).2.2.2.2 h45).2.1 _ _ | exact own_ibs (own_ibs ((ok h7).2.2.2.2 h45).2.1 _ _) _ _))) (by rw [own_st']; rfl) rfl ?_
        refine C.aloadN (q := 125) d8_124 rfl rfl rfl ?_
        refine C.getf (q := 128) 0 4 (v := .ref r4) d8_125 (hw _ (List.mem_of_getElem? (i := 19) rfl)) rfl rfl rfl ?_
        refine C.iloadN (q := 129) d8_128 rfl rfl ?_
        refine C.iload (q := 131) d8_129 rfl rfl ?_
        refine C.iastore (q := 132) 5 (H' := ((o, .inr ("com/example/terms_to_transitions/termstotransitions/equivalence/RefinablePartition", [("elements", "[I", .ref r0), ("locations", "[I", .ref r1), ("blocks", "[I", .ref r2), ("starts", "[I", .ref r3), ("ends", "[I", .ref r4), ("markedEnds", "[I", .ref r5), ("touched", "[I", .ref r6), ("blockCount", "I", .int (bc + (1 : Int32))), ("touchedCount", "I", .int tc)])) :: (r0, .inl (.int, (own_vl el))) :: (r1, .inl (.int, (own_vl lo))) :: (r2, .inl (.int, (own_vl bl))) :: (r3, .inl (.int, (own_vl (own_s st bc (own_g me (own_g to i)))))) :: (r4, .inl (.int, (own_vl (own_s (own_s en bc (own_g en (own_g to i))) (own_g to i) (own_g me (own_g to i)))))) :: (r5, .inl (.int, (own_vl me))) :: (r6, .inl (.int, (own_vl to))) :: (ls, .inr ("com/example/terms_to_transitions/termstotransitions/equivalence/RefinablePartitionMarkPinLaw", [])) :: Ht)) d8_131 rfl (show own_ib _ (own_s en bc (own_g en (own_g to i))) from (by first | exact (ok h7).2.2.2.1 | exact own_ibs (ok h7).2.2.2.1 _ _ | exact own_ibs (own_ibs (ok h7).2.2.2.1 _ _) _ _)).1 (own_ln' (show own_ib _ (own_s en bc (own_g en (own_g to i))) from (by first | exact (ok h7).2.2.2.1 | exact own_ibs (ok h7).2.2.2.1 _ _ | exact own_ibs (own_ibs (ok h7).2.2.2.1 _ _) _ _))) (by rw [own_st']; rfl) rfl ?_
        refine C.aloadN (q := 133) d8_132 rfl rfl rfl ?_
        refine C.getf (q := 136) 0 5 (v := .ref r5) d8_133 (hw _ (List.mem_of_getElem? (i := 21) rfl)) rfl rfl rfl ?_
        refine C.iload (q := 138) d8_136 rfl rfl ?_
        refine C.aloadN (q := 139) d8_138 rfl rfl rfl ?_
        refine C.getf (q := 142) 0 3 (v := .ref r3) d8_139 (hw _ (List.mem_of_getElem? (i := 17) rfl)) rfl rfl rfl ?_
        refine C.iload (q := 144) d8_142 rfl rfl ?_
        refine C.iaload (q := 145) 4 (v := .int (own_g (own_s st bc (own_g me (own_g to i))) bc)) d8_144 rfl (show own_ib _ _ from (by first | exact ((ok h7).2.2.2.2 h45).1 | exact own_ibs ((ok h7).2.2.2.2 h45).1 _ _ | exact own_ibs (own_ibs ((ok h7).2.2.2.2 h45).1 _ _) _ _)).1 (own_at' (by first | exact ((ok h7).2.2.2.2 h45).1 | exact own_ibs ((ok h7).2.2.2.2 h45).1 _ _ | exact own_ibs (own_ibs ((ok h7).2.2.2.2 h45).1 _ _) _ _)) rfl ?_
        refine C.iastore (q := 146) 6 (H' := ((o, .inr ("com/example/terms_to_transitions/termstotransitions/equivalence/RefinablePartition", [("elements", "[I", .ref r0), ("locations", "[I", .ref r1), ("blocks", "[I", .ref r2), ("starts", "[I", .ref r3), ("ends", "[I", .ref r4), ("markedEnds", "[I", .ref r5), ("touched", "[I", .ref r6), ("blockCount", "I", .int (bc + (1 : Int32))), ("touchedCount", "I", .int tc)])) :: (r0, .inl (.int, (own_vl el))) :: (r1, .inl (.int, (own_vl lo))) :: (r2, .inl (.int, (own_vl bl))) :: (r3, .inl (.int, (own_vl (own_s st bc (own_g me (own_g to i)))))) :: (r4, .inl (.int, (own_vl (own_s (own_s en bc (own_g en (own_g to i))) (own_g to i) (own_g me (own_g to i)))))) :: (r5, .inl (.int, (own_vl (own_s me bc (own_g (own_s st bc (own_g me (own_g to i))) bc))))) :: (r6, .inl (.int, (own_vl to))) :: (ls, .inr ("com/example/terms_to_transitions/termstotransitions/equivalence/RefinablePartitionMarkPinLaw", [])) :: Ht)) d8_145 rfl (show own_ib _ me from (by first | exact ((ok h7).2.2.2.2 h45).2.2.1 | exact own_ibs ((ok h7).2.2.2.2 h45).2.2.1 _ _ | exact own_ibs (own_ibs ((ok h7).2.2.2.2 h45).2.2.1 _ _) _ _)).1 (own_ln' (show own_ib _ me from (by first | exact ((ok h7).2.2.2.2 h45).2.2.1 | exact own_ibs ((ok h7).2.2.2.2 h45).2.2.1 _ _ | exact own_ibs (own_ibs ((ok h7).2.2.2.2 h45).2.2.1 _ _) _ _))) (by rw [own_st']; rfl) rfl ?_
        refine C.aloadN (q := 147) d8_146 rfl rfl rfl ?_
        refine C.getf (q := 150) 0 3 (v := .ref r3) d8_147 (hw _ (List.mem_of_getElem? (i := 17) rfl)) rfl rfl rfl ?_
        refine C.iload (q := 152) d8_150 rfl rfl ?_
        refine C.iaload (q := 153) 4 (v := .int (own_g (own_s st bc (own_g me (own_g to i))) bc)) d8_152 rfl (show own_ib _ _ from (by first | exact ((ok h7).2.2.2.2 h45).1 | exact own_ibs ((ok h7).2.2.2.2 h45).1 _ _ | exact own_ibs (own_ibs ((ok h7).2.2.2.2 h45).1 _ _) _ _)).1 (own_at' (by first | exact ((ok h7).2.2.2.2 h45).1 | exact own_ibs ((ok h7).2.2.2.2 h45).1 _ _ | exact own_ibs (own_ibs ((ok h7).2.2.2.2 h45).1 _ _) _ _)) rfl ?_
        refine C.istore (q := 155) (ls' := [.val (.ref o), .val (.ref ls), .val (.int i), .val (.int (own_g to i)), .val (.int (own_g st (own_g to i))), .val (.int (own_g me (own_g to i))), .val (.int (own_g en (own_g to i))), .val (.int bc), .val (.int (own_g (own_s st bc (own_g me (own_g to i))) bc))]) d8_153 (XS.store1 rfl hu8 rfl) rfl ?_
        refine own_lp8 hw C o ls r0 r1 r2 r3 r4 r5 r6 _ el lo (own_s st bc (own_g me (own_g to i))) (own_s (own_s en bc (own_g en (own_g to i))) (own_g to i) (own_g me (own_g to i))) (own_s me bc (own_g (own_s st bc (own_g me (own_g to i))) bc)) to tc (bc + (1 : Int32)) i (own_g to i) (own_g st (own_g to i)) (own_g me (own_g to i)) (own_g en (own_g to i)) bc (by first | exact own_ibs ((ok h7).2.2.2.2 h45).2.1 _ _ | exact own_ibs (own_ibs ((ok h7).2.2.2.2 h45).2.1 _ _) _ _) (((own_g (own_s (own_s en bc (own_g en (own_g to i))) (own_g to i) (own_g me (own_g to i))) bc).toInt - (own_g (own_s st bc (own_g me (own_g to i))) bc).toInt).toNat) bl (own_g (own_s st bc (own_g me (own_g to i))) bc) (by have := (((ok h7).2.2.2.2 h45).2.2.2.1 h74).1; omega) (((ok h7).2.2.2.2 h45).2.2.2.1 h74).2 (fun z => ?_)
        refine C.aloadN (q := 188) d8_187 rfl rfl rfl ?_
        refine C.iloadN (q := 189) d8_188 rfl rfl ?_
        refine C.iload (q := 191) d8_189 rfl rfl ?_
        refine C.callF (q := 196) 0 8 [.int (own_g to i), .int bc] [] d8_191 (hw _ (List.mem_of_getElem? (i := 62) rfl)) (hw _ (List.mem_of_getElem? (i := 63) rfl)) (fun hZ => mvT hZ (hw _ (List.mem_of_getElem? (i := 64) rfl))) (hw _ (List.mem_of_getElem? (i := 65) rfl)) (hw _ (List.mem_of_getElem? (i := 66) rfl)) (hw _ (List.mem_of_getElem? (i := 67) rfl)) (hw _ (List.mem_of_getElem? (i := 68) rfl)) (hw _ (List.mem_of_getElem? (i := 69) rfl)) (hw _ (List.mem_of_getElem? (i := 29) rfl)) (hw _ (List.mem_of_getElem? (i := 70) rfl)) (own_c6 l Z a0 n0 hw [] ls (own_g to i) bc ((o, .inr ("com/example/terms_to_transitions/termstotransitions/equivalence/RefinablePartition", [("elements", "[I", .ref r0), ("locations", "[I", .ref r1), ("blocks", "[I", .ref r2), ("starts", "[I", .ref r3), ("ends", "[I", .ref r4), ("markedEnds", "[I", .ref r5), ("touched", "[I", .ref r6), ("blockCount", "I", .int (bc + (1 : Int32))), ("touchedCount", "I", .int tc)])) :: (r0, .inl (.int, (own_vl el))) :: (r1, .inl (.int, (own_vl lo))) :: (r2, .inl (.int, (own_vl (own_il el bc ((own_g (own_s (own_s en bc (own_g en (own_g to i))) (own_g to i) (own_g me (own_g to i))) bc).toInt - (own_g (own_s st bc (own_g me (own_g to i))) bc).toInt).toNat bl (own_g (own_s st bc (own_g me (own_g to i))) bc))))) :: (r3, .inl (.int, (own_vl (own_s st bc (own_g me (own_g to i)))))) :: (r4, .inl (.int, (own_vl (own_s (own_s en bc (own_g en (own_g to i))) (own_g to i) (own_g me (own_g to i)))))) :: (r5, .inl (.int, (own_vl (own_s me bc (own_g (own_s st bc (own_g me (own_g to i))) bc))))) :: (r6, .inl (.int, (own_vl to))) :: (ls, .inr ("com/example/terms_to_transitions/termstotransitions/equivalence/RefinablePartitionMarkPinLaw", [])) :: Ht)) (by decide) (by decide) (by decide) own_pd0 rfl rfl rfl rfl (Nat.le_of_eq rfl) (by decide) (by decide) rfl ?_
        rintro _ _ ⟨rfl, hE⟩
        rw [hE]
        show G 0 0 ((o, .inr ("com/example/terms_to_transitions/termstotransitions/equivalence/RefinablePartition", [("elements", "[I", .ref r0), ("locations", "[I", .ref r1), ("blocks", "[I", .ref r2), ("starts", "[I", .ref r3), ("ends", "[I", .ref r4), ("markedEnds", "[I", .ref r5), ("touched", "[I", .ref r6), ("blockCount", "I", .int (bc + (1 : Int32))), ("touchedCount", "I", .int tc)])) :: (r0, .inl (.int, (own_vl el))) :: (r1, .inl (.int, (own_vl lo))) :: (r2, .inl (.int, (own_vl (own_il el bc ((own_g (own_s (own_s en bc (own_g en (own_g to i))) (own_g to i) (own_g me (own_g to i))) bc).toInt - (own_g (own_s st bc (own_g me (own_g to i))) bc).toInt).toNat bl (own_g (own_s st bc (own_g me (own_g to i))) bc))))) :: (r3, .inl (.int, (own_vl (own_s st bc (own_g me (own_g to i)))))) :: (r4, .inl (.int, (own_vl (own_s (own_s en bc (own_g en (own_g to i))) (own_g to i) (own_g me (own_g to i)))))) :: (r5, .inl (.int, (own_vl (own_s me bc (own_g (own_s st bc (own_g me (own_g to i))) bc))))) :: (r6, .inl (.int, (own_vl to))) :: (ls, .inr ("com/example/terms_to_transitions/termstotransitions/equivalence/RefinablePartitionMarkPinLaw", [])) :: Ht) 196 [.val (.ref o), .val (.ref ls), .val (.int i), .val (.int (own_g to i)), .val (.int (own_g st (own_g to i))), .val (.int (own_g me (own_g to i))), .val (.int (own_g en (own_g to i))), .val (.int bc), .val (.int z)] []
        refine C.aloadN (q := 197) d8_196 rfl rfl rfl ?_
        refine C.getf (q := 200) 0 5 (v := .ref r5) d8_197 (hw _ (List.mem_of_getElem? (i := 21) rfl)) rfl rfl rfl ?_
        refine C.iloadN (q := 201) d8_200 rfl rfl ?_
        refine C.aloadN (q := 202) d8_201 rfl rfl rfl ?_
        refine C.getf (q := 205) 0 3 (v := .ref r3) d8_202 (hw _ (List.mem_of_getElem? (i := 17) rfl)) rfl rfl rfl ?_
        refine C.iloadN (q := 206) d8_205 rfl rfl ?_
        refine C.iaload (q := 207) 4 (v := .int (own_g (own_s st bc (own_g me (own_g to i))) (own_g to i))) d8_206 rfl (show own_ib _ _ from (by first | exact (ok h7).2.1 | exact own_ibs (ok h7).2.1 _ _ | exact own_ibs (own_ibs (ok h7).2.1 _ _) _ _)).1 (own_at' (by first | exact (ok h7).2.1 | exact own_ibs (ok h7).2.1 _ _ | exact own_ibs (own_ibs (ok h7).2.1 _ _) _ _)) rfl ?_
        refine C.iastore (q := 208) 6 (H' := ((o, .inr ("com/example/terms_to_transitions/termstotransitions/equivalence/RefinablePartition", [("elements", "[I", .ref r0), ("locations", "[I", .ref r1), ("blocks", "[I", .ref r2), ("starts", "[I", .ref r3), ("ends", "[I", .ref r4), ("markedEnds", "[I", .ref r5), ("touched", "[I", .ref r6), ("blockCount", "I", .int (bc + (1 : Int32))), ("touchedCount", "I", .int tc)])) :: (r0, .inl (.int, (own_vl el))) :: (r1, .inl (.int, (own_vl lo))) :: (r2, .inl (.int, (own_vl (own_il el bc ((own_g (own_s (own_s en bc (own_g en (own_g to i))) (own_g to i) (own_g me (own_g to i))) bc).toInt - (own_g (own_s st bc (own_g me (own_g to i))) bc).toInt).toNat bl (own_g (own_s st bc (own_g me (own_g to i))) bc))))) :: (r3, .inl (.int, (own_vl (own_s st bc (own_g me (own_g to i)))))) :: (r4, .inl (.int, (own_vl (own_s (own_s en bc (own_g en (own_g to i))) (own_g to i) (own_g me (own_g to i)))))) :: (r5, .inl (.int, (own_vl (own_s (own_s me bc (own_g (own_s st bc (own_g me (own_g to i))) bc)) (own_g to i) (own_g (own_s st bc (own_g me (own_g to i))) (own_g to i)))))) :: (r6, .inl (.int, (own_vl to))) :: (ls, .inr ("com/example/terms_to_transitions/termstotransitions/equivalence/RefinablePartitionMarkPinLaw", [])) :: Ht)) d8_207 rfl (show own_ib _ (own_s me bc (own_g (own_s st bc (own_g me (own_g to i))) bc)) from (by first | exact (ok h7).2.2.1 | exact own_ibs (ok h7).2.2.1 _ _ | exact own_ibs (own_ibs (ok h7).2.2.1 _ _) _ _)).1 (own_ln' (show own_ib _ (own_s me bc (own_g (own_s st bc (own_g me (own_g to i))) bc)) from (by first | exact (ok h7).2.2.1 | exact own_ibs (ok h7).2.2.1 _ _ | exact own_ibs (own_ibs (ok h7).2.2.1 _ _) _ _))) (by rw [own_st']; rfl) rfl ?_
        refine C.iinc (q := 211) (z := (1 : Int32)) (ls' := [.val (.ref o), .val (.ref ls), .val (.int (i + (1 : Int32))), .val (.int (own_g to i)), .val (.int (own_g st (own_g to i))), .val (.int (own_g me (own_g to i))), .val (.int (own_g en (own_g to i))), .val (.int bc), .val (.int z)]) d8_208 rfl rfl rfl rfl ?_
        refine C.goto (q := 2) d8_211 (by decide) (by decide) ?_
        have K := K1 h7 (.val (.int (own_g to i))) (.val (.int (own_g st (own_g to i)))) (.val (.int (own_g me (own_g to i)))) (.val (.int (own_g en (own_g to i)))) (.val (.int bc)) (.val (.int z)) (Or.inr ⟨_, rfl, rfl⟩) (Or.inr ⟨_, rfl, rfl⟩) (Or.inr ⟨_, rfl, rfl⟩) (Or.inr ⟨_, rfl, rfl⟩) (Or.inr ⟨_, rfl, rfl⟩) (Or.inr ⟨_, rfl, rfl⟩)
        first | (simp only [own_sp1, if_pos h45, if_pos h74] at K; exact K) | (simp only [own_sp1, if_pos h45, if_neg h74] at K; exact K) | (simp only [own_sp1, if_neg h45] at K; exact K)
      · refine C.aloadN (q := 78) d8_77 rfl rfl rfl ?_
        refine C.getf (q := 81) 0 3 (v := .ref r3) d8_78 (hw _ (List.mem_of_getElem? (i := 17) rfl)) rfl rfl rfl ?_
        refine C.iload (q := 83) d8_81 rfl rfl ?_
        refine C.iload (q := 85) d8_83 rfl rfl ?_
        refine C.iastore (q := 86) 4 (H' := ((o, .inr ("com/example/terms_to_transitions/termstotransitions/equivalence/RefinablePartition", [("elements", "[I", .ref r0), ("locations", "[I", .ref r1), ("blocks", "[I", .ref r2), ("starts", "[I", .ref r3), ("ends", "[I", .ref r4), ("markedEnds", "[I", .ref r5), ("touched", "[I", .ref r6), ("blockCount", "I", .int (bc + (1 : Int32))), ("touchedCount", "I", .int tc)])) :: (r0, .inl (.int, (own_vl el))) :: (r1, .inl (.int, (own_vl lo))) :: (r2, .inl (.int, (own_vl bl))) :: (r3, .inl (.int, (own_vl (own_s st bc (own_g st (own_g to i)))))) :: (r4, .inl (.int, (own_vl en))) :: (r5, .inl (.int, (own_vl me))) :: (r6, .inl (.int, (own_vl to))) :: (ls, .inr ("com/example/terms_to_transitions/termstotransitions/equivalence/RefinablePartitionMarkPinLaw", [])) :: Ht)) d8_85 rfl (show own_ib _ st from (by first | exact ((ok h7).2.2.2.2 h45).1 | exact own_ibs ((ok h7).2.2.2.2 h45).1 _ _ | exact own_ibs (own_ibs ((ok h7).2.2.2.2 h45).1 _ _) _ _)).1 (own_ln' (show own_ib _ st from (by first | exact ((ok h7).2.2.2.2 h45).1 | exact own_ibs ((ok h7).2.2.2.2 h45).1 _ _ | exact own_ibs (own_ibs ((ok h7).2.2.2.2 h45).1 _ _) _ _))) (by rw [own_st']; rfl) rfl ?_
        refine C.aloadN (q := 87) d8_86 rfl rfl rfl ?_
        refine C.getf (q := 90) 0 4 (v := .ref r4) d8_87 (hw _ (List.mem_of_getElem? (i := 19) rfl)) rfl rfl rfl ?_
        refine C.iload (q := 92) d8_90 rfl rfl ?_
        refine C.iload (q := 94) d8_92 rfl rfl ?_
        refine C.iastore (q := 95) 5 (H' := ((o, .inr ("com/example/terms_to_transitions/termstotransitions/equivalence/RefinablePartition", [("elements", "[I", .ref r0), ("locations", "[I", .ref r1), ("blocks", "[I", .ref r2), ("starts", "[I", .ref r3), ("ends", "[I", .ref r4), ("markedEnds", "[I", .ref r5), ("touched", "[I", .ref r6), ("blockCount", "I", .int (bc + (1 : Int32))), ("touchedCount", "I", .int tc)])) :: (r0, .inl (.int, (own_vl el))) :: (r1, .inl (.int, (own_vl lo))) :: (r2, .inl (.int, (own_vl bl))) :: (r3, .inl (.int, (own_vl (own_s st bc (own_g st (own_g to i)))))) :: (r4, .inl (.int, (own_vl (own_s en bc (own_g me (own_g to i)))))) :: (r5, .inl (.int, (own_vl me))) :: (r6, .inl (.int, (own_vl to))) :: (ls, .inr ("com/example/terms_to_transitions/termstotransitions/equivalence/RefinablePartitionMarkPinLaw", [])) :: Ht)) d8_94 rfl (show own_ib _ en from (by first | exact ((ok h7).2.2.2.2 h45).2.1 | exact own_ibs ((ok h7).2.2.2.2 h45).2.1 _ _ | exact own_ibs (own_ibs ((ok h7).2.2.2.2 h45).2.1 _ _) _ _)).1 (own_ln' (show own_ib _ en from (by first | exact ((ok h7).2.2.2.2 h45).2.1 | exact own_ibs ((ok h7).2.2.2.2 h45).2.1 _ _ | exact own_ibs (own_ibs ((ok h7).2.2.2.2 h45).2.1 _ _) _ _))) (by rw [own_st']; rfl) rfl ?_
        refine C.aloadN (q := 96) d8_95 rfl rfl rfl ?_
        refine C.getf (q := 99) 0 3 (v := .ref r3) d8_96 (hw _ (List.mem_of_getElem? (i := 17) rfl)) rfl rfl rfl ?_
        refine C.iloadN (q := 100) d8_99 rfl rfl ?_
        refine C.iload (q := 102) d8_100 rfl rfl ?_
        refine C.iastore (q := 103) 4 (H' := ((o, .inr ("com/example/terms_to_transitions/termstotransitions/equivalence/RefinablePartition", [("elements", "[I", .ref r0), ("locations", "[I", .ref r1), ("blocks", "[I", .ref r2), ("starts", "[I", .ref r3), ("ends", "[I", .ref r4), ("markedEnds", "[I", .ref r5), ("touched", "[I", .ref r6), ("blockCount", "I", .int (bc + (1 : Int32))), ("touchedCount", "I", .int tc)])) :: (r0, .inl (.int, (own_vl el))) :: (r1, .inl (.int, (own_vl lo))) :: (r2, .inl (.int, (own_vl bl))) :: (r3, .inl (.int, (own_vl (own_s (own_s st bc (own_g st (own_g to i))) (own_g to i) (own_g me (own_g to i)))))) :: (r4, .inl (.int, (own_vl (own_s en bc (own_g me (own_g to i)))))) :: (r5, .inl (.int, (own_vl me))) :: (r6, .inl (.int, (own_vl to))) :: (ls, .inr ("com/example/terms_to_transitions/termstotransitions/equivalence/RefinablePartitionMarkPinLaw", [])) :: Ht)) d8_102 rfl (show own_ib _ (own_s st bc (own_g st (own_g to i))) from (by first | exact (ok h7).2.1 | exact own_ibs (ok h7).2.1 _ _ | exact own_ibs (own_ibs (ok h7).2.1 _ _) _ _)).1 (own_ln' (show own_ib _ (own_s st bc (own_g st (own_g to i))) from (by first | exact (ok h7).2.1 | exact own_ibs (ok h7).2.1 _ _ | exact own_ibs (own_ibs (ok h7).2.1 _ _) _ _))) (by rw [own_st']; rfl) rfl ?_
        refine C.goto (q := 132) d8_103 (by decide) (by decide) ?_
        refine C.aloadN (q := 133) d8_132 rfl rfl rfl ?_
        refine C.getf (q := 136) 0 5 (v := .ref r5) d8_133 (hw _ (List.mem_of_getElem? (i := 21) rfl)) rfl rfl rfl ?_
        refine C.iload (q := 138) d8_136 rfl rfl ?_
        refine C.aloadN (q := 139) d8_138 rfl rfl rfl ?_
        refine C.getf (q := 142) 0 3 (v := .ref r3) d8_139 (hw _ (List.mem_of_getElem? (i := 17) rfl)) rfl rfl rfl ?_
        refine C.iload (q := 144) d8_142 rfl rfl ?_
        refine C.iaload (q := 145) 4 (v := .int (own_g (own_s (own_s st bc (own_g st (own_g to i))) (own_g to i) (own_g me (own_g to i))) bc)) d8_144 rfl (show own_ib _ _ from (by first | exact ((ok h7).2.2.2.2 h45).1 | exact own_ibs ((ok h7).2.2.2.2 h45).1 _ _ | exact own_ibs (own_ibs ((ok h7).2.2.2.2 h45).1 _ _) _ _)).1 (own_at' (by first | exact ((ok h7).2.2.2.2 h45).1 | exact own_ibs ((ok h7).2.2.2.2 h45).1 _ _ | exact own_ibs (own_ibs ((ok h7).2.2.2.2 h45).1 _ _) _ _)) rfl ?_
        refine C.iastore (q := 146) 6 (H' := ((o, .inr ("com/example/terms_to_transitions/termstotransitions/equivalence/RefinablePartition", [("elements", "[I", .ref r0), ("locations", "[I", .ref r1), ("blocks", "[I", .ref r2), ("starts", "[I", .ref r3), ("ends", "[I", .ref r4), ("markedEnds", "[I", .ref r5), ("touched", "[I", .ref r6), ("blockCount", "I", .int (bc + (1 : Int32))), ("touchedCount", "I", .int tc)])) :: (r0, .inl (.int, (own_vl el))) :: (r1, .inl (.int, (own_vl lo))) :: (r2, .inl (.int, (own_vl bl))) :: (r3, .inl (.int, (own_vl (own_s (own_s st bc (own_g st (own_g to i))) (own_g to i) (own_g me (own_g to i)))))) :: (r4, .inl (.int, (own_vl (own_s en bc (own_g me (own_g to i)))))) :: (r5, .inl (.int, (own_vl (own_s me bc (own_g (own_s (own_s st bc (own_g st (own_g to i))) (own_g to i) (own_g me (own_g to i))) bc))))) :: (r6, .inl (.int, (own_vl to))) :: (ls, .inr ("com/example/terms_to_transitions/termstotransitions/equivalence/RefinablePartitionMarkPinLaw", [])) :: Ht)) d8_145 rfl (show own_ib _ me from (by first | exact ((ok h7).2.2.2.2 h45).2.2.1 | exact own_ibs ((ok h7).2.2.2.2 h45).2.2.1 _ _ | exact own_ibs (own_ibs ((ok h7).2.2.2.2 h45).2.2.1 _ _) _ _)).1 (own_ln' (show own_ib _ me from (by first | exact ((ok h7).2.2.2.2 h45).2.2.1 | exact own_ibs ((ok h7).2.2.2.2 h45).2.2.1 _ _ | exact own_ibs (own_ibs ((ok h7).2.2.2.2 h45).2.2.1 _ _) _ _))) (by rw [own_st']; rfl) rfl ?_
        refine C.aloadN (q := 147) d8_146 rfl rfl rfl ?_
        refine C.getf (q := 150) 0 3 (v := .ref r3) d8_147 (hw _ (List.mem_of_getElem? (i := 17) rfl)) rfl rfl rfl ?_
        refine C.iload (q := 152) d8_150 rfl rfl ?_
        refine C.iaload (q := 153) 4 (v := .int (own_g (own_s (own_s st bc (own_g st (own_g to i))) (own_g to i) (own_g me (own_g to i))) bc)) d8_152 rfl (show own_ib _ _ from (by first | exact ((ok h7).2.2.2.2 h45).1 | exact own_ibs ((ok h7).2.2.2.2 h45).1 _ _ | exact own_ibs (own_ibs ((ok h7).2.2.2.2 h45).1 _ _) _ _)).1 (own_at' (by first | exact ((ok h7).2.2.2.2 h45).1 | exact own_ibs ((ok h7).2.2.2.2 h45).1 _ _ | exact own_ibs (own_ibs ((ok h7).2.2.2.2 h45).1 _ _) _ _)) rfl ?_
        refine C.istore (q := 155) (ls' := [.val (.ref o), .val (.ref ls), .val (.int i), .val (.int (own_g to i)), .val (.int (own_g st (own_g to i))), .val (.int (own_g me (own_g to i))), .val (.int (own_g en (own_g to i))), .val (.int bc), .val (.int (own_g (own_s (own_s st bc (own_g st (own_g to i))) (own_g to i) (own_g me (own_g to i))) bc))]) d8_153 (XS.store1 rfl hu8 rfl) rfl ?_
        refine own_lp8 hw C o ls r0 r1 r2 r3 r4 r5 r6 _ el lo (own_s (own_s st bc (own_g st (own_g to i))) (own_g to i) (own_g me (own_g to i))) (own_s en bc (own_g me (own_g to i))) (own_s me bc (own_g (own_s (own_s st bc (own_g st (own_g to i))) (own_g to i) (own_g me (own_g to i))) bc)) to tc (bc + (1 : Int32)) i (own_g to i) (own_g st (own_g to i)) (own_g me (own_g to i)) (own_g en (own_g to i)) bc (by first | exact own_ibs ((ok h7).2.2.2.2 h45).2.1 _ _ | exact own_ibs (own_ibs ((ok h7).2.2.2.2 h45).2.1 _ _) _ _) (((own_g (own_s en bc (own_g me (own_g to i))) bc).toInt - (own_g (own_s (own_s st bc (own_g st (own_g to i))) (own_g to i) (own_g me (own_g to i))) bc).toInt).toNat) bl (own_g (own_s (own_s st bc (own_g st (own_g to i))) (own_g to i) (own_g me (own_g to i))) bc) (by have := (((ok h7).2.2.2.2 h45).2.2.2.2 h74).1; omega) (((ok h7).2.2.2.2 h45).2.2.2.2 h74).2 (fun z => ?_)
        refine C.aloadN (q := 188) d8_187 rfl rfl rfl ?_
        refine C.iloadN (q := 189) d8_188 rfl rfl ?_
        refine C.iload (q := 191) d8_189 rfl rfl ?_
        refine C.callF (q := 196) 0 8 [.int (own_g to i), .int bc] [] d8_191 (hw _ (List.mem_of_getElem? (i := 62) rfl)) (hw _ (List.mem_of_getElem? (i := 63) rfl)) (fun hZ => mvT hZ (hw _ (List.mem_of_getElem? (i := 64) rfl))) (hw _ (List.mem_of_getElem? (i := 65) rfl)) (hw _ (List.mem_of_getElem? (i := 66) rfl)) (hw _ (List.mem_of_getElem? (i := 67) rfl)) (hw _ (List.mem_of_getElem? (i := 68) rfl)) (hw _ (List.mem_of_getElem? (i := 69) rfl)) (hw _ (List.mem_of_getElem? (i := 29) rfl)) (hw _ (List.mem_of_getElem? (i := 70) rfl)) (own_c6 l Z a0 n0 hw [] ls (own_g to i) bc ((o, .inr ("com/example/terms_to_transitions/termstotransitions/equivalence/RefinablePartition", [("elements", "[I", .ref r0), ("locations", "[I", .ref r1), ("blocks", "[I", .ref r2), ("starts", "[I", .ref r3), ("ends", "[I", .ref r4), ("markedEnds", "[I", .ref r5), ("touched", "[I", .ref r6), ("blockCount", "I", .int (bc + (1 : Int32))), ("touchedCount", "I", .int tc)])) :: (r0, .inl (.int, (own_vl el))) :: (r1, .inl (.int, (own_vl lo))) :: (r2, .inl (.int, (own_vl (own_il el bc ((own_g (own_s en bc (own_g me (own_g to i))) bc).toInt - (own_g (own_s (own_s st bc (own_g st (own_g to i))) (own_g to i) (own_g me (own_g to i))) bc).toInt).toNat bl (own_g (own_s (own_s st bc (own_g st (own_g to i))) (own_g to i) (own_g me (own_g to i))) bc))))) :: (r3, .inl (.int, (own_vl (own_s (own_s st bc (own_g st (own_g to i))) (own_g to i) (own_g me (own_g to i)))))) :: (r4, .inl (.int, (own_vl (own_s en bc (own_g me (own_g to i)))))) :: (r5, .inl (.int, (own_vl (own_s me bc (own_g (own_s (own_s st bc (own_g st (own_g to i))) (own_g to i) (own_g me (own_g to i))) bc))))) :: (r6, .inl (.int, (own_vl to))) :: (ls, .inr ("com/example/terms_to_transitions/termstotransitions/equivalence/RefinablePartitionMarkPinLaw", [])) :: Ht)) (by decide) (by decide) (by decide) own_pd0 rfl rfl rfl rfl (Nat.le_of_eq rfl) (by decide) (by decide) rfl ?_
        rintro _ _ ⟨rfl, hE⟩
        rw [hE]
        show G 0 0 ((o, .inr ("com/example/terms_to_transitions/termstotransitions/equivalence/RefinablePartition", [("elements", "[I", .ref r0), ("locations", "[I", .ref r1), ("blocks", "[I", .ref r2), ("starts", "[I", .ref r3), ("ends", "[I", .ref r4), ("markedEnds", "[I", .ref r5), ("touched", "[I", .ref r6), ("blockCount", "I", .int (bc + (1 : Int32))), ("touchedCount", "I", .int tc)])) :: (r0, .inl (.int, (own_vl el))) :: (r1, .inl (.int, (own_vl lo))) :: (r2, .inl (.int, (own_vl (own_il el bc ((own_g (own_s en bc (own_g me (own_g to i))) bc).toInt - (own_g (own_s (own_s st bc (own_g st (own_g to i))) (own_g to i) (own_g me (own_g to i))) bc).toInt).toNat bl (own_g (own_s (own_s st bc (own_g st (own_g to i))) (own_g to i) (own_g me (own_g to i))) bc))))) :: (r3, .inl (.int, (own_vl (own_s (own_s st bc (own_g st (own_g to i))) (own_g to i) (own_g me (own_g to i)))))) :: (r4, .inl (.int, (own_vl (own_s en bc (own_g me (own_g to i)))))) :: (r5, .inl (.int, (own_vl (own_s me bc (own_g (own_s (own_s st bc (own_g st (own_g to i))) (own_g to i) (own_g me (own_g to i))) bc))))) :: (r6, .inl (.int, (own_vl to))) :: (ls, .inr ("com/example/terms_to_transitions/termstotransitions/equivalence/RefinablePartitionMarkPinLaw", [])) :: Ht) 196 [.val (.ref o), .val (.ref ls), .val (.int i), .val (.int (own_g to i)), .val (.int (own_g st (own_g to i))), .val (.int (own_g me (own_g to i))), .val (.int (own_g en (own_g to i))), .val (.int bc), .val (.int z)] []
        refine C.aloadN (q := 197) d8_196 rfl rfl rfl ?_
        refine C.getf (q := 200) 0 5 (v := .ref r5) d8_197 (hw _ (List.mem_of_getElem? (i := 21) rfl)) rfl rfl rfl ?_
        refine C.iloadN (q := 201) d8_200 rfl rfl ?_
        refine C.aloadN (q := 202) d8_201 rfl rfl rfl ?_
        refine C.getf (q := 205) 0 3 (v := .ref r3) d8_202 (hw _ (List.mem_of_getElem? (i := 17) rfl)) rfl rfl rfl ?_
        refine C.iloadN (q := 206) d8_205 rfl rfl ?_
        refine C.iaload (q := 207) 4 (v := .int (own_g (own_s (own_s st bc (own_g st (own_g to i))) (own_g to i) (own_g me (own_g to i))) (own_g to i))) d8_206 rfl (show own_ib _ _ from (by first | exact (ok h7).2.1 | exact own_ibs (ok h7).2.1 _ _ | exact own_ibs (own_ibs (ok h7).2.1 _ _) _ _)).1 (own_at' (by first | exact (ok h7).2.1 | exact own_ibs (ok h7).2.1 _ _ | exact own_ibs (own_ibs (ok h7).2.1 _ _) _ _)) rfl ?_
        refine C.iastore (q := 208) 6 (H' := ((o, .inr ("com/example/terms_to_transitions/termstotransitions/equivalence/RefinablePartition", [("elements", "[I", .ref r0), ("locations", "[I", .ref r1), ("blocks", "[I", .ref r2), ("starts", "[I", .ref r3), ("ends", "[I", .ref r4), ("markedEnds", "[I", .ref r5), ("touched", "[I", .ref r6), ("blockCount", "I", .int (bc + (1 : Int32))), ("touchedCount", "I", .int tc)])) :: (r0, .inl (.int, (own_vl el))) :: (r1, .inl (.int, (own_vl lo))) :: (r2, .inl (.int, (own_vl (own_il el bc ((own_g (own_s en bc (own_g me (own_g to i))) bc).toInt - (own_g (own_s (own_s st bc (own_g st (own_g to i))) (own_g to i) (own_g me (own_g to i))) bc).toInt).toNat bl (own_g (own_s (own_s st bc (own_g st (own_g to i))) (own_g to i) (own_g me (own_g to i))) bc))))) :: (r3, .inl (.int, (own_vl (own_s (own_s st bc (own_g st (own_g to i))) (own_g to i) (own_g me (own_g to i)))))) :: (r4, .inl (.int, (own_vl (own_s en bc (own_g me (own_g to i)))))) :: (r5, .inl (.int, (own_vl (own_s (own_s me bc (own_g (own_s (own_s st bc (own_g st (own_g to i))) (own_g to i) (own_g me (own_g to i))) bc)) (own_g to i) (own_g (own_s (own_s st bc (own_g st (own_g to i))) (own_g to i) (own_g me (own_g to i))) (own_g to i)))))) :: (r6, .inl (.int, (own_vl to))) :: (ls, .inr ("com/example/terms_to_transitions/termstotransitions/equivalence/RefinablePartitionMarkPinLaw", [])) :: Ht)) d8_207 rfl (show own_ib _ (own_s me bc (own_g (own_s (own_s st bc (own_g st (own_g to i))) (own_g to i) (own_g me (own_g to i))) bc)) from (by first | exact (ok h7).2.2.1 | exact own_ibs (ok h7).2.2.1 _ _ | exact own_ibs (own_ibs (ok h7).2.2.1 _ _) _ _)).1 (own_ln' (show own_ib _ (own_s me bc (own_g (own_s (own_s st bc (own_g st (own_g to i))) (own_g to i) (own_g me (own_g to i))) bc)) from (by first | exact (ok h7).2.2.1 | exact own_ibs (ok h7).2.2.1 _ _ | exact own_ibs (own_ibs (ok h7).2.2.1 _ _) _ _))) (by rw [own_st']; rfl) rfl ?_
        refine C.iinc (q := 211) (z := (1 : Int32)) (ls' := [.val (.ref o), .val (.ref ls), .val (.int (i + (1 : Int32))), .val (.int (own_g to i)), .val (.int (own_g st (own_g to i))), .val (.int (own_g me (own_g to i))), .val (.int (own_g en (own_g to i))), .val (.int bc), .val (.int z)]) d8_208 rfl rfl rfl rfl ?_
        refine C.goto (q := 2) d8_211 (by decide) (by decide) ?_
        have K := K1 h7 (.val (.int (own_g to i))) (.val (.int (own_g st (own_g to i)))) (.val (.int (own_g me (own_g to i)))) (.val (.int (own_g en (own_g to i)))) (.val (.int bc)) (.val (.int z)) (Or.inr ⟨_, rfl, rfl⟩) (Or.inr ⟨_, rfl, rfl⟩) (Or.inr ⟨_, rfl, rfl⟩) (Or.inr ⟨_, rfl, rfl⟩) (Or.inr ⟨_, rfl, rfl⟩) (Or.inr ⟨_, rfl, rfl⟩)
        first | (simp only [own_sp1, if_pos h45, if_pos h74] at K; exact K) | (simp only [own_sp1, if_pos h45, if_neg h74] at K; exact K) | (simp only [own_sp1, if_neg h45] at K; exact K)
    · refine C.aloadN (q := 197) d8_196 rfl rfl rfl ?_
      refine C.getf (q := 200) 0 5 (v := .ref r5) d8_197 (hw _ (List.mem_of_getElem? (i := 21) rfl)) rfl rfl rfl ?_
      refine C.iloadN (q := 201) d8_200 rfl rfl ?_
      refine C.aloadN (q := 202) d8_201 rfl rfl rfl ?_
      refine C.getf (q := 205) 0 3 (v := .ref r3) d8_202 (hw _ (List.mem_of_getElem? (i := 17) rfl)) rfl rfl rfl ?_
      refine C.iloadN (q := 206) d8_205 rfl rfl ?_
      refine C.iaload (q := 207) 4 (v := .int (own_g st (own_g to i))) d8_206 rfl (show own_ib _ _ from (by first | exact (ok h7).2.1 | exact own_ibs (ok h7).2.1 _ _ | exact own_ibs (own_ibs (ok h7).2.1 _ _) _ _)).1 (own_at' (by first | exact (ok h7).2.1 | exact own_ibs (ok h7).2.1 _ _ | exact own_ibs (own_ibs (ok h7).2.1 _ _) _ _)) rfl ?_
      refine C.iastore (q := 208) 6 (H' := ((o, .inr ("com/example/terms_to_transitions/termstotransitions/equivalence/RefinablePartition", [("elements", "[I", .ref r0), ("locations", "[I", .ref r1), ("blocks", "[I", .ref r2), ("starts", "[I", .ref r3), ("ends", "[I", .ref r4), ("markedEnds", "[I", .ref r5), ("touched", "[I", .ref r6), ("blockCount", "I", .int bc), ("touchedCount", "I", .int tc)])) :: (r0, .inl (.int, (own_vl el))) :: (r1, .inl (.int, (own_vl lo))) :: (r2, .inl (.int, (own_vl bl))) :: (r3, .inl (.int, (own_vl st))) :: (r4, .inl (.int, (own_vl en))) :: (r5, .inl (.int, (own_vl (own_s me (own_g to i) (own_g st (own_g to i)))))) :: (r6, .inl (.int, (own_vl to))) :: (ls, .inr ("com/example/terms_to_transitions/termstotransitions/equivalence/RefinablePartitionMarkPinLaw", [])) :: Ht)) d8_207 rfl (show own_ib _ me from (by first | exact (ok h7).2.2.1 | exact own_ibs (ok h7).2.2.1 _ _ | exact own_ibs (own_ibs (ok h7).2.2.1 _ _) _ _)).1 (own_ln' (show own_ib _ me from (by first | exact (ok h7).2.2.1 | exact own_ibs (ok h7).2.2.1 _ _ | exact own_ibs (own_ibs (ok h7).2.2.1 _ _) _ _))) (by rw [own_st']; rfl) rfl ?_
      refine C.iinc (q := 211) (z := (1 : Int32)) (ls' := [.val (.ref o), .val (.ref ls), .val (.int (i + (1 : Int32))), .val (.int (own_g to i)), .val (.int (own_g st (own_g to i))), .val (.int (own_g me (own_g to i))), .val (.int (own_g en (own_g to i))), u7, u8]) d8_208 rfl rfl rfl rfl ?_
      refine C.goto (q := 2) d8_211 (by decide) (by decide) ?_
      have K := K1 h7 (.val (.int (own_g to i))) (.val (.int (own_g st (own_g to i)))) (.val (.int (own_g me (own_g to i)))) (.val (.int (own_g en (own_g to i)))) (u7) (u8) (Or.inr ⟨_, rfl, rfl⟩) (Or.inr ⟨_, rfl, rfl⟩) (Or.inr ⟨_, rfl, rfl⟩) (Or.inr ⟨_, rfl, rfl⟩) hu7 hu8
      first | (simp only [own_sp1, if_pos h45, if_pos h74] at K; exact K) | (simp only [own_sp1, if_pos h45, if_neg h74] at K; exact K) | (simp only [own_sp1, if_neg h45] at K; exact K)
  · exact K0 h7
theorem own_lpo {Z : State} {a0 : Array Value} {n0 : Nat}  {l : Launch} {Q : Option Value → own_Hs → Prop} {G : Nat → Nat → own_Hs → Nat → List Slot → List Value → Prop} (hw : ∀ d ∈ tables_1, d.before a0 Z = true)
    (C : own_Wk Z n0 ({ frames := 1, cells := 0, slots := 0, locals := 24 } : Room) (⟨"com/example/terms_to_transitions/termstotransitions/equivalence/RefinablePartition", "split", "(Lcom/example/terms_to_transitions/termstotransitions/equivalence/RefinablePartition$SplitListener;)V"⟩ : MethodName) prog_7_method_10_code 9 none l Q G) (o ls r0 r1 r2 r3 r4 r5 r6 : Addr) (Ht : own_Hs) :
    ∀ (k : Nat) (s : own_RP) (i : Int32) (u3 u4 u5 u6 u7 u8 : Slot), own_sl u3 → own_sl u4 → own_sl u5 → own_sl u6 → own_sl u7 → own_sl u8 → i.toInt + k = s.2.2.2.2.2.2.2.1.toInt → own_splB k s i = true → (∀ (z : Int32) (v3 v4 v5 v6 v7 v8 : Slot), G 0 0 ((o, .inr ("com/example/terms_to_transitions/termstotransitions/equivalence/RefinablePartition", [("elements", "[I", .ref r0), ("locations", "[I", .ref r1), ("blocks", "[I", .ref r2), ("starts", "[I", .ref r3), ("ends", "[I", .ref r4), ("markedEnds", "[I", .ref r5), ("touched", "[I", .ref r6), ("blockCount", "I", .int ((own_spl k s i).2.2.2.2.2.2.2.2)), ("touchedCount", "I", .int ((own_spl k s i).2.2.2.2.2.2.2.1))])) :: (r0, .inl (.int, (own_vl (own_spl k s i).1))) :: (r1, .inl (.int, (own_vl (own_spl k s i).2.1))) :: (r2, .inl (.int, (own_vl (own_spl k s i).2.2.1))) :: (r3, .inl (.int, (own_vl (own_spl k s i).2.2.2.1))) :: (r4, .inl (.int, (own_vl (own_spl k s i).2.2.2.2.1))) :: (r5, .inl (.int, (own_vl (own_spl k s i).2.2.2.2.2.1))) :: (r6, .inl (.int, (own_vl (own_spl k s i).2.2.2.2.2.2.1))) :: (ls, .inr ("com/example/terms_to_transitions/termstotransitions/equivalence/RefinablePartitionMarkPinLaw", [])) :: Ht) 214 [.val (.ref o), .val (.ref ls), .val (.int z), v3, v4, v5, v6, v7, v8] []) → G 0 0 ((o, .inr ("com/example/terms_to_transitions/termstotransitions/equivalence/RefinablePartition", [("elements", "[I", .ref r0), ("locations", "[I", .ref r1), ("blocks", "[I", .ref r2), ("starts", "[I", .ref r3), ("ends", "[I", .ref r4), ("markedEnds", "[I", .ref r5), ("touched", "[I", .ref r6), ("blockCount", "I", .int s.2.2.2.2.2.2.2.2), ("touchedCount", "I", .int s.2.2.2.2.2.2.2.1)])) :: (r0, .inl (.int, (own_vl s.1))) :: (r1, .inl (.int, (own_vl s.2.1))) :: (r2, .inl (.int, (own_vl s.2.2.1))) :: (r3, .inl (.int, (own_vl s.2.2.2.1))) :: (r4, .inl (.int, (own_vl s.2.2.2.2.1))) :: (r5, .inl (.int, (own_vl s.2.2.2.2.2.1))) :: (r6, .inl (.int, (own_vl s.2.2.2.2.2.2.1))) :: (ls, .inr ("com/example/terms_to_transitions/termstotransitions/equivalence/RefinablePartitionMarkPinLaw", [])) :: Ht) 2 [.val (.ref o), .val (.ref ls), .val (.int i), u3, u4, u5, u6, u7, u8] [] := by
  intro k
  induction k with
  | zero =>
    intro s i u3 u4 u5 u6 u7 u8 hu3 hu4 hu5 hu6 hu7 hu8 hi _ K
    obtain ⟨el, lo, bl, st, en, me, to, tc, bc⟩ := s
    have hn : ¬ i < tc := by rw [Int32.lt_iff_toInt_lt]; have hi' : i.toInt + (0 : Nat) = tc.toInt := hi; omega
    exact own_to8 hw C o ls r0 r1 r2 r3 r4 r5 r6 Ht el lo bl st en me to tc bc i u3 u4 u5 u6 u7 u8 hu3 hu4 hu5 hu6 hu7 hu8 (fun z => absurd z hn) (fun _ => K _ u3 u4 u5 u6 u7 u8) (fun z => absurd z hn)
  | succ k ih =>
    intro s i u3 u4 u5 u6 u7 u8 hu3 hu4 hu5 hu6 hu7 hu8 hi hB K
    obtain ⟨el, lo, bl, st, en, me, to, tc, bc⟩ := s
    have hi' : i.toInt + (k + 1 : Nat) = tc.toInt := hi
    have hy : i < tc := by rw [Int32.lt_iff_toInt_lt]; omega
    rw [own_splB, Bool.and_eq_true] at hB
    refine own_to8 hw C o ls r0 r1 r2 r3 r4 r5 r6 Ht el lo bl st en me to tc bc i u3 u4 u5 u6 u7 u8 hu3 hu4 hu5 hu6 hu7 hu8 (fun _ => of_decide_eq_true hB.1) (fun z => absurd hy z) (fun _ v3 v4 v5 v6 v7 v8 hv3 hv4 hv5 hv6 hv7 hv8 => ?_)
    have a := c_iadd i 1; have r := rng32 (i + 1); have r2 := rng32 tc; have r3 := rng32 i
    simp only [Int32.reduceToInt] at a
    refine ih (own_sp1 (el, lo, bl, st, en, me, to, tc, bc) i) (i + 1) v3 v4 v5 v6 v7 v8 hv3 hv4 hv5 hv6 hv7 hv8 ?_ hB.2 K
    rw [own_sp1_tc]
    show (i + 1).toInt + k = tc.toInt
    omega
theorem d8_0 : decode prog_7_method_10_code 0 = .ok (.iconst 0, 1) := by decide +kernel
theorem d8_1 : decode prog_7_method_10_code 1 = .ok (.istore_n 2, 1) := by decide +kernel
theorem d8_214 : decode prog_7_method_10_code 214 = .ok (.aload_n 0, 1) := by decide +kernel
theorem d8_215 : decode prog_7_method_10_code 215 = .ok (.iconst 0, 1) := by decide +kernel
theorem d8_216 : decode prog_7_method_10_code 216 = .ok (.putfield 35, 3) := by decide +kernel
theorem d8_219 : decode prog_7_method_10_code 219 = .ok (.return_, 1) := by decide +kernel
theorem own_pn8 : plainFor (⟨"com/example/terms_to_transitions/termstotransitions/equivalence/RefinablePartition", "split", "(Lcom/example/terms_to_transitions/termstotransitions/equivalence/RefinablePartition$SplitListener;)V"⟩ : MethodName) = true := by first | exact plainFor_of_name (by first | (simp [plainName, overriddenIn]; done) | decide +kernel) | decide +kernel
set_option maxHeartbeats 4000000 in
theorem own_ef8 (m : MethodId) (x0 : Addr) (x1 : Addr) : entryFrame m #[.ref x0, .ref x1] 9 = mkF m 0 #[.val (.ref x0), .val (.ref x1), .unset, .unset, .unset, .unset, .unset, .unset, .unset] [] := by first | (simp [entryFrame, mkF, argsToLocals, Value.category, maxLocals]; done) | rfl
set_option maxRecDepth 65536 in
set_option maxHeartbeats 40000000 in
theorem own_c8 (l : Launch) (Z : State) (a0 : Array Value) (n0 : Nat) (hw : ∀ d ∈ tables_1, d.before a0 Z = true) (ws : List Jvm.Cond) (o ls r0 r1 r2 r3 r4 r5 r6 : Addr) (Ht : own_Hs) (s : own_RP) (h0 : 0 ≤ s.2.2.2.2.2.2.2.1.toInt) (hB : own_splB s.2.2.2.2.2.2.2.1.toInt.toNat s 0 = true) :
    own_Con l Z n0 (⟨"com/example/terms_to_transitions/termstotransitions/equivalence/RefinablePartition", "split", "(Lcom/example/terms_to_transitions/termstotransitions/equivalence/RefinablePartition$SplitListener;)V"⟩ : MethodName) prog_7_method_10_code 9 none ws ({ frames := 1, cells := 0, slots := 0, locals := 24 } : Room) #[.ref o, .ref ls] ((o, .inr ("com/example/terms_to_transitions/termstotransitions/equivalence/RefinablePartition", [("elements", "[I", .ref r0), ("locations", "[I", .ref r1), ("blocks", "[I", .ref r2), ("starts", "[I", .ref r3), ("ends", "[I", .ref r4), ("markedEnds", "[I", .ref r5), ("touched", "[I", .ref r6), ("blockCount", "I", .int s.2.2.2.2.2.2.2.2), ("touchedCount", "I", .int s.2.2.2.2.2.2.2.1)])) :: (r0, .inl (.int, (own_vl s.1))) :: (r1, .inl (.int, (own_vl s.2.1))) :: (r2, .inl (.int, (own_vl s.2.2.1))) :: (r3, .inl (.int, (own_vl s.2.2.2.1))) :: (r4, .inl (.int, (own_vl s.2.2.2.2.1))) :: (r5, .inl (.int, (own_vl s.2.2.2.2.2.1))) :: (r6, .inl (.int, (own_vl s.2.2.2.2.2.2.1))) :: (ls, .inr ("com/example/terms_to_transitions/termstotransitions/equivalence/RefinablePartitionMarkPinLaw", [])) :: Ht) (fun v H' => v = none ∧ H' = ((o, .inr ("com/example/terms_to_transitions/termstotransitions/equivalence/RefinablePartition", [("elements", "[I", .ref r0), ("locations", "[I", .ref r1), ("blocks", "[I", .ref r2), ("starts", "[I", .ref r3), ("ends", "[I", .ref r4), ("markedEnds", "[I", .ref r5), ("touched", "[I", .ref r6), ("blockCount", "I", .int ((own_split s).2.2.2.2.2.2.2.2)), ("touchedCount", "I", .int ((own_split s).2.2.2.2.2.2.2.1))])) :: (r0, .inl (.int, (own_vl (own_split s).1))) :: (r1, .inl (.int, (own_vl (own_split s).2.1))) :: (r2, .inl (.int, (own_vl (own_split s).2.2.1))) :: (r3, .inl (.int, (own_vl (own_split s).2.2.2.1))) :: (r4, .inl (.int, (own_vl (own_split s).2.2.2.2.1))) :: (r5, .inl (.int, (own_vl (own_split s).2.2.2.2.2.1))) :: (r6, .inl (.int, (own_vl (own_split s).2.2.2.2.2.2.1))) :: (ls, .inr ("com/example/terms_to_transitions/termstotransitions/equivalence/RefinablePartitionMarkPinLaw", [])) :: Ht)) := by
  refine own_con own_pn8 (fun m_ => own_ef8 m_ o ls) ?_
  intro G C
  refine C.iconst (q := 1) (z := (0 : Int32)) d8_0 rfl rfl ?_
  refine C.istoreN (q := 2) (ls' := [.val (.ref o), .val (.ref ls), .val (.int (0 : Int32)), .unset, .unset, .unset, .unset, .unset, .unset]) d8_1 rfl rfl ?_
  refine own_lpo hw C o ls r0 r1 r2 r3 r4 r5 r6 Ht s.2.2.2.2.2.2.2.1.toInt.toNat s 0 .unset .unset .unset .unset .unset .unset (Or.inl rfl) (Or.inl rfl) (Or.inl rfl) (Or.inl rfl) (Or.inl rfl) (Or.inl rfl) (by rw [show (0 : Int32).toInt = 0 from rfl]; omega) hB (fun z v3 v4 v5 v6 v7 v8 => ?_)
  refine C.aloadN (q := 215) d8_214 rfl rfl rfl ?_
  refine C.iconst (q := 216) (z := (0 : Int32)) d8_215 rfl rfl ?_
  refine C.putf (q := 219) 0 8 (ty := .int) (H' := ((o, .inr ("com/example/terms_to_transitions/termstotransitions/equivalence/RefinablePartition", [("elements", "[I", .ref r0), ("locations", "[I", .ref r1), ("blocks", "[I", .ref r2), ("starts", "[I", .ref r3), ("ends", "[I", .ref r4), ("markedEnds", "[I", .ref r5), ("touched", "[I", .ref r6), ("blockCount", "I", .int ((own_spl s.2.2.2.2.2.2.2.1.toInt.toNat s 0).2.2.2.2.2.2.2.2)), ("touchedCount", "I", .int (0 : Int32))])) :: (r0, .inl (.int, (own_vl (own_spl s.2.2.2.2.2.2.2.1.toInt.toNat s 0).1))) :: (r1, .inl (.int, (own_vl (own_spl s.2.2.2.2.2.2.2.1.toInt.toNat s 0).2.1))) :: (r2, .inl (.int, (own_vl (own_spl s.2.2.2.2.2.2.2.1.toInt.toNat s 0).2.2.1))) :: (r3, .inl (.int, (own_vl (own_spl s.2.2.2.2.2.2.2.1.toInt.toNat s 0).2.2.2.1))) :: (r4, .inl (.int, (own_vl (own_spl s.2.2.2.2.2.2.2.1.toInt.toNat s 0).2.2.2.2.1))) :: (r5, .inl (.int, (own_vl (own_spl s.2.2.2.2.2.2.2.1.toInt.toNat s 0).2.2.2.2.2.1))) :: (r6, .inl (.int, (own_vl (own_spl s.2.2.2.2.2.2.2.1.toInt.toNat s 0).2.2.2.2.2.2.1))) :: (ls, .inr ("com/example/terms_to_transitions/termstotransitions/equivalence/RefinablePartitionMarkPinLaw", [])) :: Ht)) d8_216 (hw _ (List.mem_of_getElem? (i := 39) rfl)) (Or.inl (hw _ (List.mem_of_getElem? (i := 40) rfl))) (hw _ (List.mem_of_getElem? (i := 2) rfl)) rfl rfl (by decide) rfl rfl rfl rfl ?_
  exact C.retV d8_219 (by decide) (by decide) ⟨rfl, rfl⟩
def own_z (n : Nat) : own_RP := match n with
  | 1 => ([0], [0], [0], [0], [1], [0], [0], 0, 1)
  | 2 => ([0, 1], [0, 1], [0, 0], [0, 0], [2, 0], [0, 0], [0, 0], 0, 1)
  | 3 => ([0, 1, 2], [0, 1, 2], [0, 0, 0], [0, 0, 0], [3, 0, 0], [0, 0, 0], [0, 0, 0], 0, 1)
  | _ => ([0, 1, 2, 3], [0, 1, 2, 3], [0, 0, 0, 0], [0, 0, 0, 0], [4, 0, 0, 0], [0, 0, 0, 0], [0, 0, 0, 0], 0, 1)
theorem d9_0 : decode prog_7_method_1_code 0 = .ok (.aload_n 0, 1) := by decide +kernel
theorem d9_1 : decode prog_7_method_1_code 1 = .ok (.invokespecial 1, 3) := by decide +kernel
theorem d9_4 : decode prog_7_method_1_code 4 = .ok (.aload_n 0, 1) := by decide +kernel
theorem d9_5 : decode prog_7_method_1_code 5 = .ok (.iload_n 1, 1) := by decide +kernel
theorem d9_6 : decode prog_7_method_1_code 6 = .ok (.newarray .int, 2) := by decide +kernel
theorem d9_8 : decode prog_7_method_1_code 8 = .ok (.putfield 7, 3) := by decide +kernel
theorem d9_11 : decode prog_7_method_1_code 11 = .ok (.aload_n 0, 1) := by decide +kernel
theorem d9_12 : decode prog_7_method_1_code 12 = .ok (.iload_n 1, 1) := by decide +kernel
theorem d9_13 : decode prog_7_method_1_code 13 = .ok (.newarray .int, 2) := by decide +kernel
theorem d9_15 : decode prog_7_method_1_code 15 = .ok (.putfield 13, 3) := by decide +kernel
theorem d9_18 : decode prog_7_method_1_code 18 = .ok (.aload_n 0, 1) := by decide +kernel
theorem d9_19 : decode prog_7_method_1_code 19 = .ok (.iload_n 1, 1) := by decide +kernel
theorem d9_20 : decode prog_7_method_1_code 20 = .ok (.newarray .int, 2) := by decide +kernel
theorem d9_22 : decode prog_7_method_1_code 22 = .ok (.putfield 16, 3) := by decide +kernel
theorem d9_25 : decode prog_7_method_1_code 25 = .ok (.aload_n 0, 1) := by decide +kernel
theorem d9_26 : decode prog_7_method_1_code 26 = .ok (.iload_n 1, 1) := by decide +kernel
theorem d9_27 : decode prog_7_method_1_code 27 = .ok (.newarray .int, 2) := by decide +kernel
theorem d9_29 : decode prog_7_method_1_code 29 = .ok (.putfield 19, 3) := by decide +kernel
theorem d9_32 : decode prog_7_method_1_code 32 = .ok (.aload_n 0, 1) := by decide +kernel
theorem d9_33 : decode prog_7_method_1_code 33 = .ok (.iload_n 1, 1) := by decide +kernel
theorem d9_34 : decode prog_7_method_1_code 34 = .ok (.newarray .int, 2) := by decide +kernel
theorem d9_36 : decode prog_7_method_1_code 36 = .ok (.putfield 22, 3) := by decide +kernel
theorem d9_39 : decode prog_7_method_1_code 39 = .ok (.aload_n 0, 1) := by decide +kernel
theorem d9_40 : decode prog_7_method_1_code 40 = .ok (.iload_n 1, 1) := by decide +kernel
theorem d9_41 : decode prog_7_method_1_code 41 = .ok (.newarray .int, 2) := by decide +kernel
theorem d9_43 : decode prog_7_method_1_code 43 = .ok (.putfield 25, 3) := by decide +kernel
theorem d9_46 : decode prog_7_method_1_code 46 = .ok (.aload_n 0, 1) := by decide +kernel
theorem d9_47 : decode prog_7_method_1_code 47 = .ok (.iload_n 1, 1) := by decide +kernel
theorem d9_48 : decode prog_7_method_1_code 48 = .ok (.newarray .int, 2) := by decide +kernel
theorem d9_50 : decode prog_7_method_1_code 50 = .ok (.putfield 28, 3) := by decide +kernel
theorem d9_53 : decode prog_7_method_1_code 53 = .ok (.iconst 0, 1) := by decide +kernel
theorem d9_54 : decode prog_7_method_1_code 54 = .ok (.istore_n 2, 1) := by decide +kernel
theorem d9_55 : decode prog_7_method_1_code 55 = .ok (.iload_n 2, 1) := by decide +kernel
theorem d9_56 : decode prog_7_method_1_code 56 = .ok (.iload_n 1, 1) := by decide +kernel
theorem d9_57 : decode prog_7_method_1_code 57 = .ok (.if_icmp .ge 23, 3) := by decide +kernel
theorem d9_60 : decode prog_7_method_1_code 60 = .ok (.aload_n 0, 1) := by decide +kernel
theorem d9_61 : decode prog_7_method_1_code 61 = .ok (.getfield 7, 3) := by decide +kernel
theorem d9_64 : decode prog_7_method_1_code 64 = .ok (.iload_n 2, 1) := by decide +kernel
theorem d9_65 : decode prog_7_method_1_code 65 = .ok (.iload_n 2, 1) := by decide +kernel
theorem d9_66 : decode prog_7_method_1_code 66 = .ok (.iastore, 1) := by decide +kernel
theorem d9_67 : decode prog_7_method_1_code 67 = .ok (.aload_n 0, 1) := by decide +kernel
theorem d9_68 : decode prog_7_method_1_code 68 = .ok (.getfield 13, 3) := by decide +kernel
theorem d9_71 : decode prog_7_method_1_code 71 = .ok (.iload_n 2, 1) := by decide +kernel
theorem d9_72 : decode prog_7_method_1_code 72 = .ok (.iload_n 2, 1) := by decide +kernel
theorem d9_73 : decode prog_7_method_1_code 73 = .ok (.iastore, 1) := by decide +kernel
theorem d9_74 : decode prog_7_method_1_code 74 = .ok (.iinc 2 1, 3) := by decide +kernel
theorem d9_77 : decode prog_7_method_1_code 77 = .ok (.goto (-22), 3) := by decide +kernel
theorem d9_80 : decode prog_7_method_1_code 80 = .ok (.aload_n 0, 1) := by decide +kernel
theorem d9_81 : decode prog_7_method_1_code 81 = .ok (.getfield 22, 3) := by decide +kernel
theorem d9_84 : decode prog_7_method_1_code 84 = .ok (.iconst 0, 1) := by decide +kernel
theorem d9_85 : decode prog_7_method_1_code 85 = .ok (.iload_n 1, 1) := by decide +kernel
theorem d9_86 : decode prog_7_method_1_code 86 = .ok (.iastore, 1) := by decide +kernel
theorem d9_87 : decode prog_7_method_1_code 87 = .ok (.aload_n 0, 1) := by decide +kernel
theorem d9_88 : decode prog_7_method_1_code 88 = .ok (.iconst 1, 1) := by decide +kernel
theorem d9_89 : decode prog_7_method_1_code 89 = .ok (.putfield 31, 3) := by decide +kernel
theorem d9_92 : decode prog_7_method_1_code 92 = .ok (.return_, 1) := by decide +kernel
theorem own_pn9_1 : plainFor (⟨"com/example/terms_to_transitions/termstotransitions/equivalence/RefinablePartition", "<init>", "(I)V"⟩ : MethodName) = true := by first | exact plainFor_of_name (by first | (simp [plainName, overriddenIn]; done) | decide +kernel) | decide +kernel
set_option maxHeartbeats 4000000 in
theorem own_ef9_1 (m : MethodId) (x0 : Addr) (x1 : Int32) : entryFrame m #[.ref x0, .int x1] 3 = mkF m 0 #[.val (.ref x0), .val (.int x1), .unset] [] := by first | (simp [entryFrame, mkF, argsToLocals, Value.category, maxLocals]; done) | rfl
set_option maxRecDepth 65536 in
set_option maxHeartbeats 40000000 in
theorem own_c9_1 (l : Launch) (Z : State) (a0 : Array Value) (n0 : Nat) (hw : ∀ d ∈ tables_1, d.before a0 Z = true) (ws : List Jvm.Cond) (o : Addr)  :
    own_Con l Z n0 (⟨"com/example/terms_to_transitions/termstotransitions/equivalence/RefinablePartition", "<init>", "(I)V"⟩ : MethodName) prog_7_method_1_code 3 none ws ({ frames := 1, cells := 7, slots := 28, locals := 12 } : Room) #[.ref o, .int (1 : Int32)] [(o, .inr ("com/example/terms_to_transitions/termstotransitions/equivalence/RefinablePartition", [("elements", "[I", .null), ("locations", "[I", .null), ("blocks", "[I", .null), ("starts", "[I", .null), ("ends", "[I", .null), ("markedEnds", "[I", .null), ("touched", "[I", .null), ("blockCount", "I", .int (0 : Int32)), ("touchedCount", "I", .int (0 : Int32))]))] (fun v H' => v = none ∧ ∃ r0 r1 r2 r3 r4 r5 r6, H' = [(o, .inr ("com/example/terms_to_transitions/termstotransitions/equivalence/RefinablePartition", [("elements", "[I", .ref r0), ("locations", "[I", .ref r1), ("blocks", "[I", .ref r2), ("starts", "[I", .ref r3), ("ends", "[I", .ref r4), ("markedEnds", "[I", .ref r5), ("touched", "[I", .ref r6), ("blockCount", "I", .int ((own_z 1).2.2.2.2.2.2.2.2)), ("touchedCount", "I", .int ((own_z 1).2.2.2.2.2.2.2.1))])), (r0, .inl (.int, (own_vl (own_z 1).1))), (r1, .inl (.int, (own_vl (own_z 1).2.1))), (r2, .inl (.int, (own_vl (own_z 1).2.2.1))), (r3, .inl (.int, (own_vl (own_z 1).2.2.2.1))), (r4, .inl (.int, (own_vl (own_z 1).2.2.2.2.1))), (r5, .inl (.int, (own_vl (own_z 1).2.2.2.2.2.1))), (r6, .inl (.int, (own_vl (own_z 1).2.2.2.2.2.2.1)))]) := by
  refine own_con own_pn9_1 (fun m_ => own_ef9_1 m_ o (1 : Int32)) ?_
  intro G C
  refine C.aloadN (q := 1) d9_0 rfl rfl rfl ?_
  refine C.initO (q := 4) 0 d9_1 (hw _ (List.mem_of_getElem? (i := 7) rfl)) (hw _ (List.mem_of_getElem? (i := 8) rfl)) (hw _ (List.mem_of_getElem? (i := 9) rfl)) rfl (by decide) (Nat.le_of_eq rfl) (by decide) rfl ?_
  refine C.aloadN (q := 5) d9_4 rfl rfl rfl ?_
  refine C.iloadN (q := 6) d9_5 rfl rfl ?_
  refine C.newarr (q := 8) 1 (ty := .int) (vs := [.int (0 : Int32)]) (k' := 1) (n' := 1) d9_6 (hw _ (List.mem_of_getElem? (i := 10) rfl)) (by decide) (by decide) (by decide) (by decide) (by decide) rfl rfl rfl rfl rfl (fun a6 => ?_)
  show G 1 1 [(o, .inr ("com/example/terms_to_transitions/termstotransitions/equivalence/RefinablePartition", [("elements", "[I", .null), ("locations", "[I", .null), ("blocks", "[I", .null), ("starts", "[I", .null), ("ends", "[I", .null), ("markedEnds", "[I", .null), ("touched", "[I", .null), ("blockCount", "I", .int (0 : Int32)), ("touchedCount", "I", .int (0 : Int32))])), (a6, .inl (.int, [.int (0 : Int32)]))] 8 [.val (.ref o), .val (.int (1 : Int32)), .unset] [.ref a6, .ref o]
  refine C.putf (q := 11) 0 0 (ty := (.array .int)) (H' := [(o, .inr ("com/example/terms_to_transitions/termstotransitions/equivalence/RefinablePartition", [("elements", "[I", .ref a6), ("locations", "[I", .null), ("blocks", "[I", .null), ("starts", "[I", .null), ("ends", "[I", .null), ("markedEnds", "[I", .null), ("touched", "[I", .null), ("blockCount", "I", .int (0 : Int32)), ("touchedCount", "I", .int (0 : Int32))])), (a6, .inl (.int, [.int (0 : Int32)]))]) d9_8 (hw _ (List.mem_of_getElem? (i := 11) rfl)) (Or.inr ⟨(hw _ (List.mem_of_getElem? (i := 12) rfl)), rfl, rfl⟩) (hw _ (List.mem_of_getElem? (i := 2) rfl)) rfl rfl (by decide) rfl rfl rfl rfl ?_
  refine C.aloadN (q := 12) d9_11 rfl rfl rfl ?_
  refine C.iloadN (q := 13) d9_12 rfl rfl ?_
  refine C.newarr (q := 15) 1 (ty := .int) (vs := [.int (0 : Int32)]) (k' := 2) (n' := 2) d9_13 (hw _ (List.mem_of_getElem? (i := 10) rfl)) (by decide) (by decide) (by decide) (by decide) (by decide) rfl rfl rfl rfl rfl (fun a13 => ?_)
  show G 2 2 [(o, .inr ("com/example/terms_to_transitions/termstotransitions/equivalence/RefinablePartition", [("elements", "[I", .ref a6), ("locations", "[I", .null), ("blocks", "[I", .null), ("starts", "[I", .null), ("ends", "[I", .null), ("markedEnds", "[I", .null), ("touched", "[I", .null), ("blockCount", "I", .int (0 : Int32)), ("touchedCount", "I", .int (0 : Int32))])), (a6, .inl (.int, [.int (0 : Int32)])), (a13, .inl (.int, [.int (0 : Int32)]))] 15 [.val (.ref o), .val (.int (1 : Int32)), .unset] [.ref a13, .ref o]
  refine C.putf (q := 18) 0 1 (ty := (.array .int)) (H' := [(o, .inr ("com/example/terms_to_transitions/termstotransitions/equivalence/RefinablePartition", [("elements", "[I", .ref a6), ("locations", "[I", .ref a13), ("blocks", "[I", .null), ("starts", "[I", .null), ("ends", "[I", .null), ("markedEnds", "[I", .null), ("touched", "[I", .null), ("blockCount", "I", .int (0 : Int32)), ("touchedCount", "I", .int (0 : Int32))])), (a6, .inl (.int, [.int (0 : Int32)])), (a13, .inl (.int, [.int (0 : Int32)]))]) d9_15 (hw _ (List.mem_of_getElem? (i := 13) rfl)) (Or.inr ⟨(hw _ (List.mem_of_getElem? (i := 14) rfl)), rfl, rfl⟩) (hw _ (List.mem_of_getElem? (i := 2) rfl)) rfl rfl (by decide) rfl rfl rfl rfl ?_
  refine C.aloadN (q := 19) d9_18 rfl rfl rfl ?_
  refine C.iloadN (q := 20) d9_19 rfl rfl ?_
  refine C.newarr (q := 22) 1 (ty := .int) (vs := [.int (0 : Int32)]) (k' := 3) (n' := 3) d9_20 (hw _ (List.mem_of_getElem? (i := 10) rfl)) (by decide) (by decide) (by decide) (by decide) (by decide) rfl rfl rfl rfl rfl (fun a20 => ?_)
  show G 3 3 [(o, .inr ("com/example/terms_to_transitions/termstotransitions/equivalence/RefinablePartition", [("elements", "[I", .ref a6), ("locations", "[I", .ref a13), ("blocks", "[I", .null), ("starts", "[I", .null), ("ends", "[I", .null), ("markedEnds", "[I", .null), ("touched", "[I", .null), ("blockCount", "I", .int (0 : Int32)), ("touchedCount", "I", .int (0 : Int32))])), (a6, .inl (.int, [.int (0 : Int32)])), (a13, .inl (.int, [.int (0 : Int32)])), (a20, .inl (.int, [.int (0 : Int32)]))] 22 [.val (.ref o), .val (.int (1 : Int32)), .unset] [.ref a20, .ref o]
  refine C.putf (q := 25) 0 2 (ty := (.array .int)) (H' := [(o, .inr ("com/example/terms_to_transitions/termstotransitions/equivalence/RefinablePartition", [("elements", "[I", .ref a6), ("locations", "[I", .ref a13), ("blocks", "[I", .ref a20), ("starts", "[I", .null), ("ends", "[I", .null), ("markedEnds", "[I", .null), ("touched", "[I", .null), ("blockCount", "I", .int (0 : Int32)), ("touchedCount", "I", .int (0 : Int32))])), (a6, .inl (.int, [.int (0 : Int32)])), (a13, .inl (.int, [.int (0 : Int32)])), (a20, .inl (.int, [.int (0 : Int32)]))]) d9_22 (hw _ (List.mem_of_getElem? (i := 15) rfl)) (Or.inr ⟨(hw _ (List.mem_of_getElem? (i := 16) rfl)), rfl, rfl⟩) (hw _ (List.mem_of_getElem? (i := 2) rfl)) rfl rfl (by decide) rfl rfl rfl rfl ?_
  refine C.aloadN (q := 26) d9_25 rfl rfl rfl ?_
  refine C.iloadN (q := 27) d9_26 rfl rfl ?_
  refine C.newarr (q := 29) 1 (ty := .int) (vs := [.int (0 : Int32)]) (k' := 4) (n' := 4) d9_27 (hw _ (List.mem_of_getElem? (i := 10) rfl)) (by decide) (by decide) (by decide) (by decide) (by decide) rfl rfl rfl rfl rfl (fun a27 => ?_)
  show G 4 4 [(o, .inr ("com/example/terms_to_transitions/termstotransitions/equivalence/RefinablePartition", [("elements", "[I", .ref a6), ("locations", "[I", .ref a13), ("blocks", "[I", .ref a20), ("starts", "[I", .null), ("ends", "[I", .null), ("markedEnds", "[I", .null), ("touched", "[I", .null), ("blockCount", "I", .int (0 : Int32)), ("touchedCount", "I", .int (0 : Int32))])), (a6, .inl (.int, [.int (0 : Int32)])), (a13, .inl (.int, [.int (0 : Int32)])), (a20, .inl (.int, [.int (0 : Int32)])), (a27, .inl (.int, [.int (0 : Int32)]))] 29 [.val (.ref o), .val (.int (1 : Int32)), .unset] [.ref a27, .ref o]
  refine C.putf (q := 32) 0 3 (ty := (.array .int)) (H' := [(o, .inr ("com/example/terms_to_transitions/termstotransitions/equivalence/RefinablePartition", [("elements", "[I", .ref a6), ("locations", "[I", .ref a13), ("blocks", "[I", .ref a20), ("starts", "[I", .ref a27), ("ends", "[I", .null), ("markedEnds", "[I", .null), ("touched", "[I", .null), ("blockCount", "I", .int (0 : Int32)), ("touchedCount", "I", .int (0 : Int32))])), (a6, .inl (.int, [.int (0 : Int32)])), (a13, .inl (.int, [.int (0 : Int32)])), (a20, .inl (.int, [.int (0 : Int32)])), (a27, .inl (.int, [.int (0 : Int32)]))]) d9_29 (hw _ (List.mem_of_getElem? (i := 17) rfl)) (Or.inr ⟨(hw _ (List.mem_of_getElem? (i := 18) rfl)), rfl, rfl⟩) (hw _ (List.mem_of_getElem? (i := 2) rfl)) rfl rfl (by decide) rfl rfl rfl rfl ?_
  refine C.aloadN (q := 33) d9_32 rfl rfl rfl ?_
  refine C.iloadN (q := 34) d9_33 rfl rfl ?_
  refine C.newarr (q := 36) 1 (ty := .int) (vs := [.int (0 : Int32)]) (k' := 5) (n' := 5) d9_34 (hw _ (List.mem_of_getElem? (i := 10) rfl)) (by decide) (by decide) (by decide) (by decide) (by decide) rfl rfl rfl rfl rfl (fun a34 => ?_)
  show G 5 5 [(o, .inr ("com/example/terms_to_transitions/termstotransitions/equivalence/RefinablePartition", [("elements", "[I", .ref a6), ("locations", "[I", .ref a13), ("blocks", "[I", .ref a20), ("starts", "[I", .ref a27), ("ends", "[I", .null), ("markedEnds", "[I", .null), ("touched", "[I", .null), ("blockCount", "I", .int (0 : Int32)), ("touchedCount", "I", .int (0 : Int32))])), (a6, .inl (.int, [.int (0 : Int32)])), (a13, .inl (.int, [.int (0 : Int32)])), (a20, .inl (.int, [.int (0 : Int32)])), (a27, .inl (.int, [.int (0 : Int32)])), (a34, .inl (.int, [.int (0 : Int32)]))] 36 [.val (.ref o), .val (.int (1 : Int32)), .unset] [.ref a34, .ref o]
  refine C.putf (q := 39) 0 4 (ty := (.array .int)) (H' := [(o, .inr ("com/example/terms_to_transitions/termstotransitions/equivalence/RefinablePartition", [("elements", "[I", .ref a6), ("locations", "[I", .ref a13), ("blocks", "[I", .ref a20), ("starts", "[I", .ref a27), ("ends", "[I", .ref a34), ("markedEnds", "[I", .null), ("touched", "[I", .null), ("blockCount", "I", .int (0 : Int32)), ("touchedCount", "I", .int (0 : Int32))])), (a6, .inl (.int, [.int (0 : Int32)])), (a13, .inl (.int, [.int (0 : Int32)])), (a20, .inl (.int, [.int (0 : Int32)])), (a27, .inl (.int, [.int (0 : Int32)])), (a34, .inl (.int, [.int (0 : Int32)]))]) d9_36 (hw _ (List.mem_of_getElem? (i := 19) rfl)) (Or.inr ⟨(hw _ (List.mem_of_getElem? (i := 20) rfl)), rfl, rfl⟩) (hw _ (List.mem_of_getElem? (i := 2) rfl)) rfl rfl (by decide) rfl rfl rfl rfl ?_
  refine C.aloadN (q := 40) d9_39 rfl rfl rfl ?_
  refine C.iloadN (q := 41) d9_40 rfl rfl ?_
  refine C.newarr (q := 43) 1 (ty := .int) (vs := [.int (0 : Int32)]) (k' := 6) (n' := 6) d9_41 (hw _ (List.mem_of_getElem? (i := 10) rfl)) (by decide) (by decide) (by decide) (by decide) (by decide) rfl rfl rfl rfl rfl (fun a41 => ?_)
  show G 6 6 [(o, .inr ("com/example/terms_to_transitions/termstotransitions/equivalence/RefinablePartition", [("elements", "[I", .ref a6), ("locations", "[I", .ref a13), ("blocks", "[I", .ref a20), ("starts", "[I", .ref a27), ("ends", "[I", .ref a34), ("markedEnds", "[I", .null), ("touched", "[I", .null), ("blockCount", "I", .int (0 : Int32)), ("touchedCount", "I", .int (0 : Int32))])), (a6, .inl (.int, [.int (0 : Int32)])), (a13, .inl (.int, [.int (0 : Int32)])), (a20, .inl (.int, [.int (0 : Int32)])), (a27, .inl (.int, [.int (0 : Int32)])), (a34, .inl (.int, [.int (0 : Int32)])), (a41, .inl (.int, [.int (0 : Int32)]))] 43 [.val (.ref o), .val (.int (1 : Int32)), .unset] [.ref a41, .ref o]
  refine C.putf (q := 46) 0 5 (ty := (.array .int)) (H' := [(o, .inr ("com/example/terms_to_transitions/termstotransitions/equivalence/RefinablePartition", [("elements", "[I", .ref a6), ("locations", "[I", .ref a13), ("blocks", "[I", .ref a20), ("starts", "[I", .ref a27), ("ends", "[I", .ref a34), ("markedEnds", "[I", .ref a41), ("touched", "[I", .null), ("blockCount", "I", .int (0 : Int32)), ("touchedCount", "I", .int (0 : Int32))])), (a6, .inl (.int, [.int (0 : Int32)])), (a13, .inl (.int, [.int (0 : Int32)])), (a20, .inl (.int, [.int (0 : Int32)])), (a27, .inl (.int, [.int (0 : Int32)])), (a34, .inl (.int, [.int (0 : Int32)])), (a41, .inl (.int, [.int (0 : Int32)]))]) d9_43 (hw _ (List.mem_of_getElem? (i := 21) rfl)) (Or.inr ⟨(hw _ (List.mem_of_getElem? (i := 22) rfl)), rfl, rfl⟩) (hw _ (List.mem_of_getElem? (i := 2) rfl)) rfl rfl (by decide) rfl rfl rfl rfl ?_
  refine C.aloadN (q := 47) d9_46 rfl rfl rfl ?_
  refine C.iloadN (q := 48) d9_47 rfl rfl ?_
  refine C.newarr (q := 50) 1 (ty := .int) (vs := [.int (0 : Int32)]) (k' := 7) (n' := 7) d9_48 (hw _ (List.mem_of_getElem? (i := 10) rfl)) (by decide) (by decide) (by decide) (by decide) (by decide) rfl rfl rfl rfl rfl (fun a48 => ?_)
  show G 7 7 [(o, .inr ("com/example/terms_to_transitions/termstotransitions/equivalence/RefinablePartition", [("elements", "[I", .ref a6), ("locations", "[I", .ref a13), ("blocks", "[I", .ref a20), ("starts", "[I", .ref a27), ("ends", "[I", .ref a34), ("markedEnds", "[I", .ref a41), ("touched", "[I", .null), ("blockCount", "I", .int (0 : Int32)), ("touchedCount", "I", .int (0 : Int32))])), (a6, .inl (.int, [.int (0 : Int32)])), (a13, .inl (.int, [.int (0 : Int32)])), (a20, .inl (.int, [.int (0 : Int32)])), (a27, .inl (.int, [.int (0 : Int32)])), (a34, .inl (.int, [.int (0 : Int32)])), (a41, .inl (.int, [.int (0 : Int32)])), (a48, .inl (.int, [.int (0 : Int32)]))] 50 [.val (.ref o), .val (.int (1 : Int32)), .unset] [.ref a48, .ref o]
  refine C.putf (q := 53) 0 6 (ty := (.array .int)) (H' := [(o, .inr ("com/example/terms_to_transitions/termstotransitions/equivalence/RefinablePartition", [("elements", "[I", .ref a6), ("locations", "[I", .ref a13), ("blocks", "[I", .ref a20), ("starts", "[I", .ref a27), ("ends", "[I", .ref a34), ("markedEnds", "[I", .ref a41), ("touched", "[I", .ref a48), ("blockCount", "I", .int (0 : Int32)), ("touchedCount", "I", .int (0 : Int32))])), (a6, .inl (.int, [.int (0 : Int32)])), (a13, .inl (.int, [.int (0 : Int32)])), (a20, .inl (.int, [.int (0 : Int32)])), (a27, .inl (.int, [.int (0 : Int32)])), (a34, .inl (.int, [.int (0 : Int32)])), (a41, .inl (.int, [.int (0 : Int32)])), (a48, .inl (.int, [.int (0 : Int32)]))]) d9_50 (hw _ (List.mem_of_getElem? (i := 23) rfl)) (Or.inr ⟨(hw _ (List.mem_of_getElem? (i := 24) rfl)), rfl, rfl⟩) (hw _ (List.mem_of_getElem? (i := 2) rfl)) rfl rfl (by decide) rfl rfl rfl rfl ?_
  refine C.iconst (q := 54) (z := (0 : Int32)) d9_53 rfl rfl ?_
  refine C.istoreN (q := 55) (ls' := [.val (.ref o), .val (.int (1 : Int32)), .val (.int (0 : Int32))]) d9_54 rfl rfl ?_
  refine C.iloadN (q := 56) d9_55 rfl rfl ?_
  refine C.iloadN (q := 57) d9_56 rfl rfl ?_
  refine C.icmpGe (q := 80) (q' := 60) d9_57 (by decide) (by decide) rfl (fun h57 => ?_) (fun h57 => absurd (by decide) h57)
  refine C.aloadN (q := 61) d9_60 rfl rfl rfl ?_
  refine C.getf (q := 64) 0 0 (v := .ref a6) d9_61 (hw _ (List.mem_of_getElem? (i := 11) rfl)) rfl rfl rfl ?_
  refine C.iloadN (q := 65) d9_64 rfl rfl ?_
  refine C.iloadN (q := 66) d9_65 rfl rfl ?_
  refine C.iastore (q := 67) 1 (H' := [(o, .inr ("com/example/terms_to_transitions/termstotransitions/equivalence/RefinablePartition", [("elements", "[I", .ref a6), ("locations", "[I", .ref a13), ("blocks", "[I", .ref a20), ("starts", "[I", .ref a27), ("ends", "[I", .ref a34), ("markedEnds", "[I", .ref a41), ("touched", "[I", .ref a48), ("blockCount", "I", .int (0 : Int32)), ("touchedCount", "I", .int (0 : Int32))])), (a6, .inl (.int, [.int (0 : Int32)])), (a13, .inl (.int, [.int (0 : Int32)])), (a20, .inl (.int, [.int (0 : Int32)])), (a27, .inl (.int, [.int (0 : Int32)])), (a34, .inl (.int, [.int (0 : Int32)])), (a41, .inl (.int, [.int (0 : Int32)])), (a48, .inl (.int, [.int (0 : Int32)]))]) d9_66 rfl (by decide) (by show _ < 1; decide) rfl rfl ?_
  refine C.aloadN (q := 68) d9_67 rfl rfl rfl ?_
  refine C.getf (q := 71) 0 1 (v := .ref a13) d9_68 (hw _ (List.mem_of_getElem? (i := 13) rfl)) rfl rfl rfl ?_
  refine C.iloadN (q := 72) d9_71 rfl rfl ?_
  refine C.iloadN (q := 73) d9_72 rfl rfl ?_
  refine C.iastore (q := 74) 2 (H' := [(o, .inr ("com/example/terms_to_transitions/termstotransitions/equivalence/RefinablePartition", [("elements", "[I", .ref a6), ("locations", "[I", .ref a13), ("blocks", "[I", .ref a20), ("starts", "[I", .ref a27), ("ends", "[I", .ref a34), ("markedEnds", "[I", .ref a41), ("touched", "[I", .ref a48), ("blockCount", "I", .int (0 : Int32)), ("touchedCount", "I", .int (0 : Int32))])), (a6, .inl (.int, [.int (0 : Int32)])), (a13, .inl (.int, [.int (0 : Int32)])), (a20, .inl (.int, [.int (0 : Int32)])), (a27, .inl (.int, [.int (0 : Int32)])), (a34, .inl (.int, [.int (0 : Int32)])), (a41, .inl (.int, [.int (0 : Int32)])), (a48, .inl (.int, [.int (0 : Int32)]))]) d9_73 rfl (by decide) (by show _ < 1; decide) rfl rfl ?_
  refine C.iinc (q := 77) (z := (1 : Int32)) (ls' := [.val (.ref o), .val (.int (1 : Int32)), .val (.int ((0 : Int32) + (1 : Int32)))]) d9_74 rfl rfl rfl rfl ?_
  show G 7 7 [(o, .inr ("com/example/terms_to_transitions/termstotransitions/equivalence/RefinablePartition", [("elements", "[I", .ref a6), ("locations", "[I", .ref a13), ("blocks", "[I", .ref a20), ("starts", "[I", .ref a27), ("ends", "[I", .ref a34), ("markedEnds", "[I", .ref a41), ("touched", "[I", .ref a48), ("blockCount", "I", .int (0 : Int32)), ("touchedCount", "I", .int (0 : Int32))])), (a6, .inl (.int, [.int (0 : Int32)])), (a13, .inl (.int, [.int (0 : Int32)])), (a20, .inl (.int, [.int (0 : Int32)])), (a27, .inl (.int, [.int (0 : Int32)])), (a34, .inl (.int, [.int (0 : Int32)])), (a41, .inl (.int, [.int (0 : Int32)])), (a48, .inl (.int, [.int (0 : Int32)]))] 77 [.val (.ref o), .val (.int (1 : Int32)), .val (.int (1 : Int32))] []
  refine C.goto (q := 55) d9_77 (by decide) (by decide) ?_
  refine C.iloadN (q := 56) d9_55 rfl rfl ?_
  refine C.iloadN (q := 57) d9_56 rfl rfl ?_
  refine C.icmpGe (q := 80) (q' := 60) d9_57 (by decide) (by decide) rfl (fun h57 => absurd h57 (by decide)) (fun h57 => ?_)
  refine C.aloadN (q := 81) d9_80 rfl rfl rfl ?_
  refine C.getf (q := 84) 0 4 (v := .ref a34) d9_81 (hw _ (List.mem_of_getElem? (i := 19) rfl)) rfl rfl rfl ?_
  refine C.iconst (q := 85) (z := (0 : Int32)) d9_84 rfl rfl ?_
  refine C.iloadN (q := 86) d9_85 rfl rfl ?_
  refine C.iastore (q := 87) 5 (H' := [(o, .inr ("com/example/terms_to_transitions/termstotransitions/equivalence/RefinablePartition", [("elements", "[I", .ref a6), ("locations", "[I", .ref a13), ("blocks", "[I", .ref a20), ("starts", "[I", .ref a27), ("ends", "[I", .ref a34), ("markedEnds", "[I", .ref a41), ("touched", "[I", .ref a48), ("blockCount", "I", .int (0 : Int32)), ("touchedCount", "I", .int (0 : Int32))])), (a6, .inl (.int, [.int (0 : Int32)])), (a13, .inl (.int, [.int (0 : Int32)])), (a20, .inl (.int, [.int (0 : Int32)])), (a27, .inl (.int, [.int (0 : Int32)])), (a34, .inl (.int, [.int (1 : Int32)])), (a41, .inl (.int, [.int (0 : Int32)])), (a48, .inl (.int, [.int (0 : Int32)]))]) d9_86 rfl (by decide) (by show _ < 1; decide) rfl rfl ?_
  refine C.aloadN (q := 88) d9_87 rfl rfl rfl ?_
  refine C.iconst (q := 89) (z := (1 : Int32)) d9_88 rfl rfl ?_
  refine C.putf (q := 92) 0 7 (ty := .int) (H' := [(o, .inr ("com/example/terms_to_transitions/termstotransitions/equivalence/RefinablePartition", [("elements", "[I", .ref a6), ("locations", "[I", .ref a13), ("blocks", "[I", .ref a20), ("starts", "[I", .ref a27), ("ends", "[I", .ref a34), ("markedEnds", "[I", .ref a41), ("touched", "[I", .ref a48), ("blockCount", "I", .int (1 : Int32)), ("touchedCount", "I", .int (0 : Int32))])), (a6, .inl (.int, [.int (0 : Int32)])), (a13, .inl (.int, [.int (0 : Int32)])), (a20, .inl (.int, [.int (0 : Int32)])), (a27, .inl (.int, [.int (0 : Int32)])), (a34, .inl (.int, [.int (1 : Int32)])), (a41, .inl (.int, [.int (0 : Int32)])), (a48, .inl (.int, [.int (0 : Int32)]))]) d9_89 (hw _ (List.mem_of_getElem? (i := 25) rfl)) (Or.inl (hw _ (List.mem_of_getElem? (i := 26) rfl))) (hw _ (List.mem_of_getElem? (i := 2) rfl)) rfl rfl (by decide) rfl rfl rfl rfl ?_
  exact C.retV d9_92 (by decide) (by decide) ⟨rfl, a6, a13, a20, a27, a34, a41, a48, rfl⟩
theorem own_pn9_2 : plainFor (⟨"com/example/terms_to_transitions/termstotransitions/equivalence/RefinablePartition", "<init>", "(I)V"⟩ : MethodName) = true := by first | exact plainFor_of_name (by first | (simp [plainName, overriddenIn]; done) | decide +kernel) | decide +kernel
set_option maxHeartbeats 4000000 in
theorem own_ef9_2 (m : MethodId) (x0 : Addr) (x1 : Int32) : entryFrame m #[.ref x0, .int x1] 3 = mkF m 0 #[.val (.ref x0), .val (.int x1), .unset] [] := by first | (simp [entryFrame, mkF, argsToLocals, Value.category, maxLocals]; done) | rfl
set_option maxRecDepth 65536 in
set_option maxHeartbeats 40000000 in
theorem own_c9_2 (l : Launch) (Z : State) (a0 : Array Value) (n0 : Nat) (hw : ∀ d ∈ tables_1, d.before a0 Z = true) (ws : List Jvm.Cond) (o : Addr)  :
    own_Con l Z n0 (⟨"com/example/terms_to_transitions/termstotransitions/equivalence/RefinablePartition", "<init>", "(I)V"⟩ : MethodName) prog_7_method_1_code 3 none ws ({ frames := 1, cells := 7, slots := 28, locals := 12 } : Room) #[.ref o, .int (2 : Int32)] [(o, .inr ("com/example/terms_to_transitions/termstotransitions/equivalence/RefinablePartition", [("elements", "[I", .null), ("locations", "[I", .null), ("blocks", "[I", .null), ("starts", "[I", .null), ("ends", "[I", .null), ("markedEnds", "[I", .null), ("touched", "[I", .null), ("blockCount", "I", .int (0 : Int32)), ("touchedCount", "I", .int (0 : Int32))]))] (fun v H' => v = none ∧ ∃ r0 r1 r2 r3 r4 r5 r6, H' = [(o, .inr ("com/example/terms_to_transitions/termstotransitions/equivalence/RefinablePartition", [("elements", "[I", .ref r0), ("locations", "[I", .ref r1), ("blocks", "[I", .ref r2), ("starts", "[I", .ref r3), ("ends", "[I", .ref r4), ("markedEnds", "[I", .ref r5), ("touched", "[I", .ref r6), ("blockCount", "I", .int ((own_z 2).2.2.2.2.2.2.2.2)), ("touchedCount", "I", .int ((own_z 2).2.2.2.2.2.2.2.1))])), (r0, .inl (.int, (own_vl (own_z 2).1))), (r1, .inl (.int, (own_vl (own_z 2).2.1))), (r2, .inl (.int, (own_vl (own_z 2).2.2.1))), (r3, .inl (.int, (own_vl (own_z 2).2.2.2.1))), (r4, .inl (.int, (own_vl (own_z 2).2.2.2.2.1))), (r5, .inl (.int, (own_vl (own_z 2).2.2.2.2.2.1))), (r6, .inl (.int, (own_vl (own_z 2).2.2.2.2.2.2.1)))]) := by
  refine own_con own_pn9_2 (fun m_ => own_ef9_2 m_ o (2 : Int32)) ?_
  intro G C
  refine C.aloadN (q := 1) d9_0 rfl rfl rfl ?_
  refine C.initO (q := 4) 0 d9_1 (hw _ (List.mem_of_getElem? (i := 7) rfl)) (hw _ (List.mem_of_getElem? (i := 8) rfl)) (hw _ (List.mem_of_getElem? (i := 9) rfl)) rfl (by decide) (Nat.le_of_eq rfl) (by decide) rfl ?_
  refine C.aloadN (q := 5) d9_4 rfl rfl rfl ?_
  refine C.iloadN (q := 6) d9_5 rfl rfl ?_
  refine C.newarr (q := 8) 2 (ty := .int) (vs := [.int (0 : Int32), .int (0 : Int32)]) (k' := 1) (n' := 2) d9_6 (hw _ (List.mem_of_getElem? (i := 10) rfl)) (by decide) (by decide) (by decide) (by decide) (by decide) rfl rfl rfl rfl rfl (fun a6 => ?_)
  show G 1 2 [(o, .inr ("com/example/terms_to_transitions/termstotransitions/equivalence/RefinablePartition", [("elements", "[I", .null), ("locations", "[I", .null), ("blocks", "[I", .null), ("starts", "[I", .null), ("ends", "[I", .null), ("markedEnds", "[I", .null), ("touched", "[I", .null), ("blockCount", "I", .int (0 : Int32)), ("touchedCount", "I", .int (0 : Int32))])), (a6, .inl (.int, [.int (0 : Int32), .int (0 : Int32)]))] 8 [.val (.ref o), .val (.int (2 : Int32)), .unset] [.ref a6, .ref o]
  refine C.putf (q := 11) 0 0 (ty := (.array .int)) (H' := [(o, .inr ("com/example/terms_to_transitions/termstotransitions/equivalence/RefinablePartition", [("elements", "[I", .ref a6), ("locations", "[I", .null), ("blocks", "[I", .null), ("starts", "[I", .null), ("ends", "[I", .null), ("markedEnds", "[I", .null), ("touched", "[I", .null), ("blockCount", "I", .int (0 : Int32)), ("touchedCount", "I", .int (0 : Int32))])), (a6, .inl (.int, [.int (0 : Int32), .int (0 : Int32)]))]) d9_8 (hw _ (List.mem_of_getElem? (i := 11) rfl)) (Or.inr ⟨(hw _ (List.mem_of_getElem? (i := 12) rfl)), rfl, rfl⟩) (hw _ (List.mem_of_getElem? (i := 2) rfl)) rfl rfl (by decide) rfl rfl rfl rfl ?_
  refine C.aloadN (q := 12) d9_11 rfl rfl rfl ?_
  refine C.iloadN (q := 13) d9_12 rfl rfl ?_
  refine C.newarr (q := 15) 2 (ty := .int) (vs := [.int (0 : Int32), .int (0 : Int32)]) (k' := 2) (n' := 4) d9_13 (hw _ (List.mem_of_getElem? (i := 10) rfl)) (by decide) (by decide) (by decide) (by decide) (by decide) rfl rfl rfl rfl rfl (fun a13 => ?_)
  show G 2 4 [(o, .inr ("com/example/terms_to_transitions/termstotransitions/equivalence/RefinablePartition", [("elements", "[I", .ref a6), ("locations", "[I", .null), ("blocks", "[I", .null), ("starts", "[I", .null), ("ends", "[I", .null), ("markedEnds", "[I", .null), ("touched", "[I", .null), ("blockCount", "I", .int (0 : Int32)), ("touchedCount", "I", .int (0 : Int32))])), (a6, .inl (.int, [.int (0 : Int32), .int (0 : Int32)])), (a13, .inl (.int, [.int (0 : Int32), .int (0 : Int32)]))] 15 [.val (.ref o), .val (.int (2 : Int32)), .unset] [.ref a13, .ref o]
  refine C.putf (q := 18) 0 1 (ty := (.array .int)) (H' := [(o, .inr ("com/example/terms_to_transitions/termstotransitions/equivalence/RefinablePartition", [("elements", "[I", .ref a6), ("locations", "[I", .ref a13), ("blocks", "[I", .null), ("starts", "[I", .null), ("ends", "[I", .null), ("markedEnds", "[I", .null), ("touched", "[I", .null), ("blockCount", "I", .int (0 : Int32)), ("touchedCount", "I", .int (0 : Int32))])), (a6, .inl (.int, [.int (0 : Int32), .int (0 : Int32)])), (a13, .inl (.int, [.int (0 : Int32), .int (0 : Int32)]))]) d9_15 (hw _ (List.mem_of_getElem? (i := 13) rfl)) (Or.inr ⟨(hw _ (List.mem_of_getElem? (i := 14) rfl)), rfl, rfl⟩) (hw _ (List.mem_of_getElem? (i := 2) rfl)) rfl rfl (by decide) rfl rfl rfl rfl ?_
  refine C.aloadN (q := 19) d9_18 rfl rfl rfl ?_
  refine C.iloadN (q := 20) d9_19 rfl rfl ?_
  refine C.newarr (q := 22) 2 (ty := .int) (vs := [.int (0 : Int32), .int (0 : Int32)]) (k' := 3) (n' := 6) d9_20 (hw _ (List.mem_of_getElem? (i := 10) rfl)) (by decide) (by decide) (by decide) (by decide) (by decide) rfl rfl rfl rfl rfl (fun a20 => ?_)
  show G 3 6 [(o, .inr ("com/example/terms_to_transitions/termstotransitions/equivalence/RefinablePartition", [("elements", "[I", .ref a6), ("locations", "[I", .ref a13), ("blocks", "[I", .null), ("starts", "[I", .null), ("ends", "[I", .null), ("markedEnds", "[I", .null), ("touched", "[I", .null), ("blockCount", "I", .int (0 : Int32)), ("touchedCount", "I", .int (0 : Int32))])), (a6, .inl (.int, [.int (0 : Int32), .int (0 : Int32)])), (a13, .inl (.int, [.int (0 : Int32), .int (0 : Int32)])), (a20, .inl (.int, [.int (0 : Int32), .int (0 : Int32)]))] 22 [.val (.ref o), .val (.int (2 : Int32)), .unset] [.ref a20, .ref o]
  refine C.putf (q := 25) 0 2 (ty := (.array .int)) (H' := [(o, .inr ("com/example/terms_to_transitions/termstotransitions/equivalence/RefinablePartition", [("elements", "[I", .ref a6), ("locations", "[I", .ref a13), ("blocks", "[I", .ref a20), ("starts", "[I", .null), ("ends", "[I", .null), ("markedEnds", "[I", .null), ("touched", "[I", .null), ("blockCount", "I", .int (0 : Int32)), ("touchedCount", "I", .int (0 : Int32))])), (a6, .inl (.int, [.int (0 : Int32), .int (0 : Int32)])), (a13, .inl (.int, [.int (0 : Int32), .int (0 : Int32)])), (a20, .inl (.int, [.int (0 : Int32), .int (0 : Int32)]))]) d9_22 (hw _ (List.mem_of_getElem? (i := 15) rfl)) (Or.inr ⟨(hw _ (List.mem_of_getElem? (i := 16) rfl)), rfl, rfl⟩) (hw _ (List.mem_of_getElem? (i := 2) rfl)) rfl rfl (by decide) rfl rfl rfl rfl ?_
  refine C.aloadN (q := 26) d9_25 rfl rfl rfl ?_
  refine C.iloadN (q := 27) d9_26 rfl rfl ?_
  refine C.newarr (q := 29) 2 (ty := .int) (vs := [.int (0 : Int32), .int (0 : Int32)]) (k' := 4) (n' := 8) d9_27 (hw _ (List.mem_of_getElem? (i := 10) rfl)) (by decide) (by decide) (by decide) (by decide) (by decide) rfl rfl rfl rfl rfl (fun a27 => ?_)
  show G 4 8 [(o, .inr ("com/example/terms_to_transitions/termstotransitions/equivalence/RefinablePartition", [("elements", "[I", .ref a6), ("locations", "[I", .ref a13), ("blocks", "[I", .ref a20), ("starts", "[I", .null), ("ends", "[I", .null), ("markedEnds", "[I", .null), ("touched", "[I", .null), ("blockCount", "I", .int (0 : Int32)), ("touchedCount", "I", .int (0 : Int32))])), (a6, .inl (.int, [.int (0 : Int32), .int (0 : Int32)])), (a13, .inl (.int, [.int (0 : Int32), .int (0 : Int32)])), (a20, .inl (.int, [.int (0 : Int32), .int (0 : Int32)])), (a27, .inl (.int, [.int (0 : Int32), .int (0 : Int32)]))] 29 [.val (.ref o), .val (.int (2 : Int32)), .unset] [.ref a27, .ref o]
  refine C.putf (q := 32) 0 3 (ty := (.array .int)) (H' := [(o, .inr ("com/example/terms_to_transitions/termstotransitions/equivalence/RefinablePartition", [("elements", "[I", .ref a6), ("locations", "[I", .ref a13), ("blocks", "[I", .ref a20), ("starts", "[I", .ref a27), ("ends", "[I", .null), ("markedEnds", "[I", .null), ("touched", "[I", .null), ("blockCount", "I", .int (0 : Int32)), ("touchedCount", "I", .int (0 : Int32))])), (a6, .inl (.int, [.int (0 : Int32), .int (0 : Int32)])), (a13, .inl (.int, [.int (0 : Int32), .int (0 : Int32)])), (a20, .inl (.int, [.int (0 : Int32), .int (0 : Int32)])), (a27, .inl (.int, [.int (0 : Int32), .int (0 : Int32)]))]) d9_29 (hw _ (List.mem_of_getElem? (i := 17) rfl)) (Or.inr ⟨(hw _ (List.mem_of_getElem? (i := 18) rfl)), rfl, rfl⟩) (hw _ (List.mem_of_getElem? (i := 2) rfl)) rfl rfl (by decide) rfl rfl rfl rfl ?_
  refine C.aloadN (q := 33) d9_32 rfl rfl rfl ?_
  refine C.iloadN (q := 34) d9_33 rfl rfl ?_
  refine C.newarr (q := 36) 2 (ty := .int) (vs := [.int (0 : Int32), .int (0 : Int32)]) (k' := 5) (n' := 10) d9_34 (hw _ (List.mem_of_getElem? (i := 10) rfl)) (by decide) (by decide) (by decide) (by decide) (by decide) rfl rfl rfl rfl rfl (fun a34 => ?_)
  show G 5 10 [(o, .inr ("com/example/terms_to_transitions/termstotransitions/equivalence/RefinablePartition", [("elements", "[I", .ref a6), ("locations", "[I", .ref a13), ("blocks", "[I", .ref a20), ("starts", "[I", .ref a27), ("ends", "[I", .null), ("markedEnds", "[I", .null), ("touched", "[I", .null), ("blockCount", "I", .int (0 : Int32)), ("touchedCount", "I", .int (0 : Int32))])), (a6, .inl (.int, [.int (0 : Int32), .int (0 : Int32)])), (a13, .inl (.int, [.int (0 : Int32), .int (0 : Int32)])), (a20, .inl (.int, [.int (0 : Int32), .int (0 : Int32)])), (a27, .inl (.int, [.int (0 : Int32), .int (0 : Int32)])), (a34, .inl (.int, [.int (0 : Int32), .int (0 : Int32)]))] 36 [.val (.ref o), .val (.int (2 : Int32)), .unset] [.ref a34, .ref o]
  refine C.putf (q := 39) 0 4 (ty := (.array .int)) (H' := [(o, .inr ("com/example/terms_to_transitions/termstotransitions/equivalence/RefinablePartition", [("elements", "[I", .ref a6), ("locations", "[I", .ref a13), ("blocks", "[I", .ref a20), ("starts", "[I", .ref a27), ("ends", "[I", .ref a34), ("markedEnds", "[I", .null), ("touched", "[I", .null), ("blockCount", "I", .int (0 : Int32)), ("touchedCount", "I", .int (0 : Int32))])), (a6, .inl (.int, [.int (0 : Int32), .int (0 : Int32)])), (a13, .inl (.int, [.int (0 : Int32), .int (0 : Int32)])), (a20, .inl (.int, [.int (0 : Int32), .int (0 : Int32)])), (a27, .inl (.int, [.int (0 : Int32), .int (0 : Int32)])), (a34, .inl (.int, [.int (0 : Int32), .int (0 : Int32)]))]) d9_36 (hw _ (List.mem_of_getElem? (i := 19) rfl)) (Or.inr ⟨(hw _ (List.mem_of_getElem? (i := 20) rfl)), rfl, rfl⟩) (hw _ (List.mem_of_getElem? (i := 2) rfl)) rfl rfl (by decide) rfl rfl rfl rfl ?_
  refine C.aloadN (q := 40) d9_39 rfl rfl rfl ?_
  refine C.iloadN (q := 41) d9_40 rfl rfl ?_
  refine C.newarr (q := 43) 2 (ty := .int) (vs := [.int (0 : Int32), .int (0 : Int32)]) (k' := 6) (n' := 12) d9_41 (hw _ (List.mem_of_getElem? (i := 10) rfl)) (by decide) (by decide) (by decide) (by decide) (by decide) rfl rfl rfl rfl rfl (fun a41 => ?_)
  show G 6 12 [(o, .inr ("com/example/terms_to_transitions/termstotransitions/equivalence/RefinablePartition", [("elements", "[I", .ref a6), ("locations", "[I", .ref a13), ("blocks", "[I", .ref a20), ("starts", "[I", .ref a27), ("ends", "[I", .ref a34), ("markedEnds", "[I", .null), ("touched", "[I", .null), ("blockCount", "I", .int (0 : Int32)), ("touchedCount", "I", .int (0 : Int32))])), (a6, .inl (.int, [.int (0 : Int32), .int (0 : Int32)])), (a13, .inl (.int, [.int (0 : Int32), .int (0 : Int32)])), (a20, .inl (.int, [.int (0 : Int32), .int (0 : Int32)])), (a27, .inl (.int, [.int (0 : Int32), .int (0 : Int32)])), (a34, .inl (.int, [.int (0 : Int32), .int (0 : Int32)])), (a41, .inl (.int, [.int (0 : Int32), .int (0 : Int32)]))] 43 [.val (.ref o), .val (.int (2 : Int32)), .unset] [.ref a41, .ref o]
  refine C.putf (q := 46) 0 5 (ty := (.array .int)) (H' := [(o, .inr ("com/example/terms_to_transitions/termstotransitions/equivalence/RefinablePartition", [("elements", "[I", .ref a6), ("locations", "[I", .ref a13), ("blocks", "[I", .ref a20), ("starts", "[I", .ref a27), ("ends", "[I", .ref a34), ("markedEnds", "[I", .ref a41), ("touched", "[I", .null), ("blockCount", "I", .int (0 : Int32)), ("touchedCount", "I", .int (0 : Int32))])), (a6, .inl (.int, [.int (0 : Int32), .int (0 : Int32)])), (a13, .inl (.int, [.int (0 : Int32), .int (0 : Int32)])), (a20, .inl (.int, [.int (0 : Int32), .int (0 : Int32)])), (a27, .inl (.int, [.int (0 : Int32), .int (0 : Int32)])), (a34, .inl (.int, [.int (0 : Int32), .int (0 : Int32)])), (a41, .inl (.int, [.int (0 : Int32), .int (0 : Int32)]))]) d9_43 (hw _ (List.mem_of_getElem? (i := 21) rfl)) (Or.inr ⟨(hw _ (List.mem_of_getElem? (i := 22) rfl)), rfl, rfl⟩) (hw _ (List.mem_of_getElem? (i := 2) rfl)) rfl rfl (by decide) rfl rfl rfl rfl ?_
  refine C.aloadN (q := 47) d9_46 rfl rfl rfl ?_
  refine C.iloadN (q := 48) d9_47 rfl rfl ?_
  refine C.newarr (q := 50) 2 (ty := .int) (vs := [.int (0 : Int32), .int (0 : Int32)]) (k' := 7) (n' := 14) d9_48 (hw _ (List.mem_of_getElem? (i := 10) rfl)) (by decide) (by decide) (by decide) (by decide) (by decide) rfl rfl rfl rfl rfl (fun a48 => ?_)
  show G 7 14 [(o, .inr ("com/example/terms_to_transitions/termstotransitions/equivalence/RefinablePartition", [("elements", "[I", .ref a6), ("locations", "[I", .ref a13), ("blocks", "[I", .ref a20), ("starts", "[I", .ref a27), ("ends", "[I", .ref a34), ("markedEnds", "[I", .ref a41), ("touched", "[I", .null), ("blockCount", "I", .int (0 : Int32)), ("touchedCount", "I", .int (0 : Int32))])), (a6, .inl (.int, [.int (0 : Int32), .int (0 : Int32)])), (a13, .inl (.int, [.int (0 : Int32), .int (0 : Int32)])), (a20, .inl (.int, [.int (0 : Int32), .int (0 : Int32)])), (a27, .inl (.int, [.int (0 : Int32), .int (0 : Int32)])), (a34, .inl (.int, [.int (0 : Int32), .int (0 : Int32)])), (a41, .inl (.int, [.int (0 : Int32), .int (0 : Int32)])), (a48, .inl (.int, [.int (0 : Int32), .int (0 : Int32)]))] 50 [.val (.ref o), .val (.int (2 : Int32)), .unset] [.ref a48, .ref o]
  refine C.putf (q := 53) 0 6 (ty := (.array .int)) (H' := [(o, .inr ("com/example/terms_to_transitions/termstotransitions/equivalence/RefinablePartition", [("elements", "[I", .ref a6), ("locations", "[I", .ref a13), ("blocks", "[I", .ref a20), ("starts", "[I", .ref a27), ("ends", "[I", .ref a34), ("markedEnds", "[I", .ref a41), ("touched", "[I", .ref a48), ("blockCount", "I", .int (0 : Int32)), ("touchedCount", "I", .int (0 : Int32))])), (a6, .inl (.int, [.int (0 : Int32), .int (0 : Int32)])), (a13, .inl (.int, [.int (0 : Int32), .int (0 : Int32)])), (a20, .inl (.int, [.int (0 : Int32), .int (0 : Int32)])), (a27, .inl (.int, [.int (0 : Int32), .int (0 : Int32)])), (a34, .inl (.int, [.int (0 : Int32), .int (0 : Int32)])), (a41, .inl (.int, [.int (0 : Int32), .int (0 : Int32)])), (a48, .inl (.int, [.int (0 : Int32), .int (0 : Int32)]))]) d9_50 (hw _ (List.mem_of_getElem? (i := 23) rfl)) (Or.inr ⟨(hw _ (List.mem_of_getElem? (i := 24) rfl)), rfl, rfl⟩) (hw _ (List.mem_of_getElem? (i := 2) rfl)) rfl rfl (by decide) rfl rfl rfl rfl ?_
  refine C.iconst (q := 54) (z := (0 : Int32)) d9_53 rfl rfl ?_
  refine C.istoreN (q := 55) (ls' := [.val (.ref o), .val (.int (2 : Int32)), .val (.int (0 : Int32))]) d9_54 rfl rfl ?_
  refine C.iloadN (q := 56) d9_55 rfl rfl ?_
  refine C.iloadN (q := 57) d9_56 rfl rfl ?_
  refine C.icmpGe (q := 80) (q' := 60) d9_57 (by decide) (by decide) rfl (fun h57 => ?_) (fun h57 => absurd (by decide) h57)
  refine C.aloadN (q := 61) d9_60 rfl rfl rfl ?_
  refine C.getf (q := 64) 0 0 (v := .ref a6) d9_61 (hw _ (List.mem_of_getElem? (i := 11) rfl)) rfl rfl rfl ?_
  refine C.iloadN (q := 65) d9_64 rfl rfl ?_
  refine C.iloadN (q := 66) d9_65 rfl rfl ?_
  refine C.iastore (q := 67) 1 (H' := [(o, .inr ("com/example/terms_to_transitions/termstotransitions/equivalence/RefinablePartition", [("elements", "[I", .ref a6), ("locations", "[I", .ref a13), ("blocks", "[I", .ref a20), ("starts", "[I", .ref a27), ("ends", "[I", .ref a34), ("markedEnds", "[I", .ref a41), ("touched", "[I", .ref a48), ("blockCount", "I", .int (0 : Int32)), ("touchedCount", "I", .int (0 : Int32))])), (a6, .inl (.int, [.int (0 : Int32), .int (0 : Int32)])), (a13, .inl (.int, [.int (0 : Int32), .int (0 : Int32)])), (a20, .inl (.int, [.int (0 : Int32), .int (0 : Int32)])), (a27, .inl (.int, [.int (0 : Int32), .int (0 : Int32)])), (a34, .inl (.int, [.int (0 : Int32), .int (0 : Int32)])), (a41, .inl (.int, [.int (0 : Int32), .int (0 : Int32)])), (a48, .inl (.int, [.int (0 : Int32), .int (0 : Int32)]))]) d9_66 rfl (by decide) (by show _ < 2; decide) rfl rfl ?_
  refine C.aloadN (q := 68) d9_67 rfl rfl rfl ?_
  refine C.getf (q := 71) 0 1 (v := .ref a13) d9_68 (hw _ (List.mem_of_getElem? (i := 13) rfl)) rfl rfl rfl ?_
  refine C.iloadN (q := 72) d9_71 rfl rfl ?_
  refine C.iloadN (q := 73) d9_72 rfl rfl ?_
  refine C.iastore (q := 74) 2 (H' := [(o, .inr ("com/example/terms_to_transitions/termstotransitions/equivalence/RefinablePartition", [("elements", "[I", .ref a6), ("locations", "[I", .ref a13), ("blocks", "[I", .ref a20), ("starts", "[I", .ref a27), ("ends", "[I", .ref a34), ("markedEnds", "[I", .ref a41), ("touched", "[I", .ref a48), ("blockCount", "I", .int (0 : Int32)), ("touchedCount", "I", .int (0 : Int32))])), (a6, .inl (.int, [.int (0 : Int32), .int (0 : Int32)])), (a13, .inl (.int, [.int (0 : Int32), .int (0 : Int32)])), (a20, .inl (.int, [.int (0 : Int32), .int (0 : Int32)])), (a27, .inl (.int, [.int (0 : Int32), .int (0 : Int32)])), (a34, .inl (.int, [.int (0 : Int32), .int (0 : Int32)])), (a41, .inl (.int, [.int (0 : Int32), .int (0 : Int32)])), (a48, .inl (.int, [.int (0 : Int32), .int (0 : Int32)]))]) d9_73 rfl (by decide) (by show _ < 2; decide) rfl rfl ?_
  refine C.iinc (q := 77) (z := (1 : Int32)) (ls' := [.val (.ref o), .val (.int (2 : Int32)), .val (.int ((0 : Int32) + (1 : Int32)))]) d9_74 rfl rfl rfl rfl ?_
  show G 7 14 [(o, .inr ("com/example/terms_to_transitions/termstotransitions/equivalence/RefinablePartition", [("elements", "[I", .ref a6), ("locations", "[I", .ref a13), ("blocks", "[I", .ref a20), ("starts", "[I", .ref a27), ("ends", "[I", .ref a34), ("markedEnds", "[I", .ref a41), ("touched", "[I", .ref a48), ("blockCount", "I", .int (0 : Int32)), ("touchedCount", "I", .int (0 : Int32))])), (a6, .inl (.int, [.int (0 : Int32), .int (0 : Int32)])), (a13, .inl (.int, [.int (0 : Int32), .int (0 : Int32)])), (a20, .inl (.int, [.int (0 : Int32), .int (0 : Int32)])), (a27, .inl (.int, [.int (0 : Int32), .int (0 : Int32)])), (a34, .inl (.int, [.int (0 : Int32), .int (0 : Int32)])), (a41, .inl (.int, [.int (0 : Int32), .int (0 : Int32)])), (a48, .inl (.int, [.int (0 : Int32), .int (0 : Int32)]))] 77 [.val (.ref o), .val (.int (2 : Int32)), .val (.int (1 : Int32))] []
  refine C.goto (q := 55) d9_77 (by decide) (by decide) ?_
  refine C.iloadN (q := 56) d9_55 rfl rfl ?_
  refine C.iloadN (q := 57) d9_56 rfl rfl ?_
  refine C.icmpGe (q := 80) (q' := 60) d9_57 (by decide) (by decide) rfl (fun h57 => ?_) (fun h57 => absurd (by decide) h57)
  refine C.aloadN (q := 61) d9_60 rfl rfl rfl ?_
  refine C.getf (q := 64) 0 0 (v := .ref a6) d9_61 (hw _ (List.mem_of_getElem? (i := 11) rfl)) rfl rfl rfl ?_
  refine C.iloadN (q := 65) d9_64 rfl rfl ?_
  refine C.iloadN (q := 66) d9_65 rfl rfl ?_
  refine C.iastore (q := 67) 1 (H' := [(o, .inr ("com/example/terms_to_transitions/termstotransitions/equivalence/RefinablePartition", [("elements", "[I", .ref a6), ("locations", "[I", .ref a13), ("blocks", "[I", .ref a20), ("starts", "[I", .ref a27), ("ends", "[I", .ref a34), ("markedEnds", "[I", .ref a41), ("touched", "[I", .ref a48), ("blockCount", "I", .int (0 : Int32)), ("touchedCount", "I", .int (0 : Int32))])), (a6, .inl (.int, [.int (0 : Int32), .int (1 : Int32)])), (a13, .inl (.int, [.int (0 : Int32), .int (0 : Int32)])), (a20, .inl (.int, [.int (0 : Int32), .int (0 : Int32)])), (a27, .inl (.int, [.int (0 : Int32), .int (0 : Int32)])), (a34, .inl (.int, [.int (0 : Int32), .int (0 : Int32)])), (a41, .inl (.int, [.int (0 : Int32), .int (0 : Int32)])), (a48, .inl (.int, [.int (0 : Int32), .int (0 : Int32)]))]) d9_66 rfl (by decide) (by show _ < 2; decide) rfl rfl ?_
  refine C.aloadN (q := 68) d9_67 rfl rfl rfl ?_
  refine C.getf (q := 71) 0 1 (v := .ref a13) d9_68 (hw _ (List.mem_of_getElem? (i := 13) rfl)) rfl rfl rfl ?_
  refine C.iloadN (q := 72) d9_71 rfl rfl ?_
  refine C.iloadN (q := 73) d9_72 rfl rfl ?_
  refine C.iastore (q := 74) 2 (H' := [(o, .inr ("com/example/terms_to_transitions/termstotransitions/equivalence/RefinablePartition", [("elements", "[I", .ref a6), ("locations", "[I", .ref a13), ("blocks", "[I", .ref a20), ("starts", "[I", .ref a27), ("ends", "[I", .ref a34), ("markedEnds", "[I", .ref a41), ("touched", "[I", .ref a48), ("blockCount", "I", .int (0 : Int32)), ("touchedCount", "I", .int (0 : Int32))])), (a6, .inl (.int, [.int (0 : Int32), .int (1 : Int32)])), (a13, .inl (.int, [.int (0 : Int32), .int (1 : Int32)])), (a20, .inl (.int, [.int (0 : Int32), .int (0 : Int32)])), (a27, .inl (.int, [.int (0 : Int32), .int (0 : Int32)])), (a34, .inl (.int, [.int (0 : Int32), .int (0 : Int32)])), (a41, .inl (.int, [.int (0 : Int32), .int (0 : Int32)])), (a48, .inl (.int, [.int (0 : Int32), .int (0 : Int32)]))]) d9_73 rfl (by decide) (by show _ < 2; decide) rfl rfl ?_
  refine C.iinc (q := 77) (z := (1 : Int32)) (ls' := [.val (.ref o), .val (.int (2 : Int32)), .val (.int ((1 : Int32) + (1 : Int32)))]) d9_74 rfl rfl rfl rfl ?_
  show G 7 14 [(o, .inr ("com/example/terms_to_transitions/termstotransitions/equivalence/RefinablePartition", [("elements", "[I", .ref a6), ("locations", "[I", .ref a13), ("blocks", "[I", .ref a20), ("starts", "[I", .ref a27), ("ends", "[I", .ref a34), ("markedEnds", "[I", .ref a41), ("touched", "[I", .ref a48), ("blockCount", "I", .int (0 : Int32)), ("touchedCount", "I", .int (0 : Int32))])), (a6, .inl (.int, [.int (0 : Int32), .int (1 : Int32)])), (a13, .inl (.int, [.int (0 : Int32), .int (1 : Int32)])), (a20, .inl (.int, [.int (0 : Int32), .int (0 : Int32)])), (a27, .inl (.int, [.int (0 : Int32), .int (0 : Int32)])), (a34, .inl (.int, [.int (0 : Int32), .int (0 : Int32)])), (a41, .inl (.int, [.int (0 : Int32), .int (0 : Int32)])), (a48, .inl (.int, [.int (0 : Int32), .int (0 : Int32)]))] 77 [.val (.ref o), .val (.int (2 : Int32)), .val (.int (2 : Int32))] []
  refine C.goto (q := 55) d9_77 (by decide) (by decide) ?_
  refine C.iloadN (q := 56) d9_55 rfl rfl ?_
  refine C.iloadN (q := 57) d9_56 rfl rfl ?_
  refine C.icmpGe (q := 80) (q' := 60) d9_57 (by decide) (by decide) rfl (fun h57 => absurd h57 (by decide)) (fun h57 => ?_)
  refine C.aloadN (q := 81) d9_80 rfl rfl rfl ?_
  refine C.getf (q := 84) 0 4 (v := .ref a34) d9_81 (hw _ (List.mem_of_getElem? (i := 19) rfl)) rfl rfl rfl ?_
  refine C.iconst (q := 85) (z := (0 : Int32)) d9_84 rfl rfl ?_
  refine C.iloadN (q := 86) d9_85 rfl rfl ?_
  refine C.iastore (q := 87) 5 (H' := [(o, .inr ("com/example/terms_to_transitions/termstotransitions/equivalence/RefinablePartition", [("elements", "[I", .ref a6), ("locations", "[I", .ref a13), ("blocks", "[I", .ref a20), ("starts", "[I", .ref a27), ("ends", "[I", .ref a34), ("markedEnds", "[I", .ref a41), ("touched", "[I", .ref a48), ("blockCount", "I", .int (0 : Int32)), ("touchedCount", "I", .int (0 : Int32))])), (a6, .inl (.int, [.int (0 : Int32), .int (1 : Int32)])), (a13, .inl (.int, [.int (0 : Int32), .int (1 : Int32)])), (a20, .inl (.int, [.int (0 : Int32), .int (0 : Int32)])), (a27, .inl (.int, [.int (0 : Int32), .int (0 : Int32)])), (a34, .inl (.int, [.int (2 : Int32), .int (0 : Int32)])), (a41, .inl (.int, [.int (0 : Int32), .int (0 : Int32)])), (a48, .inl (.int, [.int (0 : Int32), .int (0 : Int32)]))]) d9_86 rfl (by decide) (by show _ < 2; decide) rfl rfl ?_
  refine C.aloadN (q := 88) d9_87 rfl rfl rfl ?_
  refine C.iconst (q := 89) (z := (1 : Int32)) d9_88 rfl rfl ?_
  refine C.putf (q := 92) 0 7 (ty := .int) (H' := [(o, .inr ("com/example/terms_to_transitions/termstotransitions/equivalence/RefinablePartition", [("elements", "[I", .ref a6), ("locations", "[I", .ref a13), ("blocks", "[I", .ref a20), ("starts", "[I", .ref a27), ("ends", "[I", .ref a34), ("markedEnds", "[I", .ref a41), ("touched", "[I", .ref a48), ("blockCount", "I", .int (1 : Int32)), ("touchedCount", "I", .int (0 : Int32))])), (a6, .inl (.int, [.int (0 : Int32), .int (1 : Int32)])), (a13, .inl (.int, [.int (0 : Int32), .int (1 : Int32)])), (a20, .inl (.int, [.int (0 : Int32), .int (0 : Int32)])), (a27, .inl (.int, [.int (0 : Int32), .int (0 : Int32)])), (a34, .inl (.int, [.int (2 : Int32), .int (0 : Int32)])), (a41, .inl (.int, [.int (0 : Int32), .int (0 : Int32)])), (a48, .inl (.int, [.int (0 : Int32), .int (0 : Int32)]))]) d9_89 (hw _ (List.mem_of_getElem? (i := 25) rfl)) (Or.inl (hw _ (List.mem_of_getElem? (i := 26) rfl))) (hw _ (List.mem_of_getElem? (i := 2) rfl)) rfl rfl (by decide) rfl rfl rfl rfl ?_
  exact C.retV d9_92 (by decide) (by decide) ⟨rfl, a6, a13, a20, a27, a34, a41, a48, rfl⟩
theorem own_pn9_3 : plainFor (⟨"com/example/terms_to_transitions/termstotransitions/equivalence/RefinablePartition", "<init>", "(I)V"⟩ : MethodName) = true := by first | exact plainFor_of_name (by first | (simp [plainName, overriddenIn]; done) | decide +kernel) | decide +kernel
set_option maxHeartbeats 4000000 in
theorem own_ef9_3 (m : MethodId) (x0 : Addr) (x1 : Int32) : entryFrame m #[.ref x0, .int x1] 3 = mkF m 0 #[.val (.ref x0), .val (.int x1), .unset] [] := by first | (simp [entryFrame, mkF, argsToLocals, Value.category, maxLocals]; done) | rfl
set_option maxRecDepth 65536 in
set_option maxHeartbeats 40000000 in
theorem own_c9_3 (l : Launch) (Z : State) (a0 : Array Value) (n0 : Nat) (hw : ∀ d ∈ tables_1, d.before a0 Z = true) (ws : List Jvm.Cond) (o : Addr)  :
    own_Con l Z n0 (⟨"com/example/terms_to_transitions/termstotransitions/equivalence/RefinablePartition", "<init>", "(I)V"⟩ : MethodName) prog_7_method_1_code 3 none ws ({ frames := 1, cells := 7, slots := 28, locals := 12 } : Room) #[.ref o, .int (3 : Int32)] [(o, .inr ("com/example/terms_to_transitions/termstotransitions/equivalence/RefinablePartition", [("elements", "[I", .null), ("locations", "[I", .null), ("blocks", "[I", .null), ("starts", "[I", .null), ("ends", "[I", .null), ("markedEnds", "[I", .null), ("touched", "[I", .null), ("blockCount", "I", .int (0 : Int32)), ("touchedCount", "I", .int (0 : Int32))]))] (fun v H' => v = none ∧ ∃ r0 r1 r2 r3 r4 r5 r6, H' = [(o, .inr ("com/example/terms_to_transitions/termstotransitions/equivalence/RefinablePartition", [("elements", "[I", .ref r0), ("locations", "[I", .ref r1), ("blocks", "[I", .ref r2), ("starts", "[I", .ref r3), ("ends", "[I", .ref r4), ("markedEnds", "[I", .ref r5), ("touched", "[I", .ref r6), ("blockCount", "I", .int ((own_z 3).2.2.2.2.2.2.2.2)), ("touchedCount", "I", .int ((own_z 3).2.2.2.2.2.2.2.1))])), (r0, .inl (.int, (own_vl (own_z 3).1))), (r1, .inl (.int, (own_vl (own_z 3).2.1))), (r2, .inl (.int, (own_vl (own_z 3).2.2.1))), (r3, .inl (.int, (own_vl (own_z 3).2.2.2.1))), (r4, .inl (.int, (own_vl (own_z 3).2.2.2.2.1))), (r5, .inl (.int, (own_vl (own_z 3).2.2.2.2.2.1))), (r6, .inl (.int, (own_vl (own_z 3).2.2.2.2.2.2.1)))]) := by
  refine own_con own_pn9_3 (fun m_ => own_ef9_3 m_ o (3 : Int32)) ?_
  intro G C
  refine C.aloadN (q := 1) d9_0 rfl rfl rfl ?_
  refine C.initO (q := 4) 0 d9_1 (hw _ (List.mem_of_getElem? (i := 7) rfl)) (hw _ (List.mem_of_getElem? (i := 8) rfl)) (hw _ (List.mem_of_getElem? (i := 9) rfl)) rfl (by decide) (Nat.le_of_eq rfl) (by decide) rfl ?_
  refine C.aloadN (q := 5) d9_4 rfl rfl rfl ?_
  refine C.iloadN (q := 6) d9_5 rfl rfl ?_
  refine C.newarr (q := 8) 3 (ty := .int) (vs := [.int (0 : Int32), .int (0 : Int32), .int (0 : Int32)]) (k' := 1) (n' := 3) d9_6 (hw _ (List.mem_of_getElem? (i := 10) rfl)) (by decide) (by decide) (by decide) (by decide) (by decide) rfl rfl rfl rfl rfl (fun a6 => ?_)
  show G 1 3 [(o, .inr ("com/example/terms_to_transitions/termstotransitions/equivalence/RefinablePartition", [("elements", "[I", .null), ("locations", "[I", .null), ("blocks", "[I", .null), ("starts", "[I", .null), ("ends", "[I", .null), ("markedEnds", "[I", .null), ("touched", "[I", .null), ("blockCount", "I", .int (0 : Int32)), ("touchedCount", "I", .int (0 : Int32))])), (a6, .inl (.int, [.int (0 : Int32), .int (0 : Int32), .int (0 : Int32)]))] 8 [.val (.ref o), .val (.int (3 : Int32)), .unset] [.ref a6, .ref o]
  refine C.putf (q := 11) 0 0 (ty := (.array .int)) (H' := [(o, .inr ("com/example/terms_to_transitions/termstotransitions/equivalence/RefinablePartition", [("elements", "[I", .ref a6), ("locations", "[I", .null), ("blocks", "[I", .null), ("starts", "[I", .null), ("ends", "[I", .null), ("markedEnds", "[I", .null), ("touched", "[I", .null), ("blockCount", "I", .int (0 : Int32)), ("touchedCount", "I", .int (0 : Int32))])), (a6, .inl (.int, [.int (0 : Int32), .int (0 : Int32), .int (0 : Int32)]))]) d9_8 (hw _ (List.mem_of_getElem? (i := 11) rfl)) (Or.inr ⟨(hw _ (List.mem_of_getElem? (i := 12) rfl)), rfl, rfl⟩) (hw _ (List.mem_of_getElem? (i := 2) rfl)) rfl rfl (by decide) rfl rfl rfl rfl ?_
  refine C.aloadN (q := 12) d9_11 rfl rfl rfl ?_
  refine C.iloadN (q := 13) d9_12 rfl rfl ?_
  refine C.newarr (q := 15) 3 (ty := .int) (vs := [.int (0 : Int32), .int (0 : Int32), .int (0 : Int32)]) (k' := 2) (n' := 6) d9_13 (hw _ (List.mem_of_getElem? (i := 10) rfl)) (by decide) (by decide) (by decide) (by decide) (by decide) rfl rfl rfl rfl rfl (fun a13 => ?_)
  show G 2 6 [(o, .inr ("com/example/terms_to_transitions/termstotransitions/equivalence/RefinablePartition", [("elements", "[I", .ref a6), ("locations", "[I", .null), ("blocks", "[I", .null), ("starts", "[I", .null), ("ends", "[I", .null), ("markedEnds", "[I", .null), ("touched", "[I", .null), ("blockCount", "I", .int (0 : Int32)), ("touchedCount", "I", .int (0 : Int32))])), (a6, .inl (.int, [.int (0 : Int32), .int (0 : Int32), .int (0 : Int32)])), (a13, .inl (.int, [.int (0 : Int32), .int (0 : Int32), .int (0 : Int32)]))] 15 [.val (.ref o), .val (.int (3 : Int32)), .unset] [.ref a13, .ref o]
  refine C.putf (q := 18) 0 1 (ty := (.array .int)) (H' := [(o, .inr ("com/example/terms_to_transitions/termstotransitions/equivalence/RefinablePartition", [("elements", "[I", .ref a6), ("locations", "[I", .ref a13), ("blocks", "[I", .null), ("starts", "[I", .null), ("ends", "[I", .null), ("markedEnds", "[I", .null), ("touched", "[I", .null), ("blockCount", "I", .int (0 : Int32)), ("touchedCount", "I", .int (0 : Int32))])), (a6, .inl (.int, [.int (0 : Int32), .int (0 : Int32), .int (0 : Int32)])), (a13, .inl (.int, [.int (0 : Int32), .int (0 : Int32), .int (0 : Int32)]))]) d9_15 (hw _ (List.mem_of_getElem? (i := 13) rfl)) (Or.inr ⟨(hw _ (List.mem_of_getElem? (i := 14) rfl)), rfl, rfl⟩) (hw _ (List.mem_of_getElem? (i := 2) rfl)) rfl rfl (by decide) rfl rfl rfl rfl ?_
  refine C.aloadN (q := 19) d9_18 rfl rfl rfl ?_
  refine C.iloadN (q := 20) d9_19 rfl rfl ?_
  refine C.newarr (q := 22) 3 (ty := .int) (vs := [.int (0 : Int32), .int (0 : Int32), .int (0 : Int32)]) (k' := 3) (n' := 9) d9_20 (hw _ (List.mem_of_getElem? (i := 10) rfl)) (by decide) (by decide) (by decide) (by decide) (by decide) rfl rfl rfl rfl rfl (fun a20 => ?_)
  show G 3 9 [(o, .inr ("com/example/terms_to_transitions/termstotransitions/equivalence/RefinablePartition", [("elements", "[I", .ref a6), ("locations", "[I", .ref a13), ("blocks", "[I", .null), ("starts", "[I", .null), ("ends", "[I", .null), ("markedEnds", "[I", .null), ("touched", "[I", .null), ("blockCount", "I", .int (0 : Int32)), ("touchedCount", "I", .int (0 : Int32))])), (a6, .inl (.int, [.int (0 : Int32), .int (0 : Int32), .int (0 : Int32)])), (a13, .inl (.int, [.int (0 : Int32), .int (0 : Int32), .int (0 : Int32)])), (a20, .inl (.int, [.int (0 : Int32), .int (0 : Int32), .int (0 : Int32)]))] 22 [.val (.ref o), .val (.int (3 : Int32)), .unset] [.ref a20, .ref o]
  refine C.putf (q := 25) 0 2 (ty := (.array .int)) (H' := [(o, .inr ("com/example/terms_to_transitions/termstotransitions/equivalence/RefinablePartition", [("elements", "[I", .ref a6), ("locations", "[I", .ref a13), ("blocks", "[I", .ref a20), ("starts", "[I", .null), ("ends", "[I", .null), ("markedEnds", "[I", .null), ("touched", "[I", .null), ("blockCount", "I", .int (0 : Int32)), ("touchedCount", "I", .int (0 : Int32))])), (a6, .inl (.int, [.int (0 : Int32), .int (0 : Int32), .int (0 : Int32)])), (a13, .inl (.int, [.int (0 : Int32), .int (0 : Int32), .int (0 : Int32)])), (a20, .inl (.int, [.int (0 : Int32), .int (0 : Int32), .int (0 : Int32)]))]) d9_22 (hw _ (List.mem_of_getElem? (i := 15) rfl)) (Or.inr ⟨(hw _ (List.mem_of_getElem? (i := 16) rfl)), rfl, rfl⟩) (hw _ (List.mem_of_getElem? (i := 2) rfl)) rfl rfl (by decide) rfl rfl rfl rfl ?_
  refine C.aloadN (q := 26) d9_25 rfl rfl rfl ?_
  refine C.iloadN (q := 27) d9_26 rfl rfl ?_
  refine C.newarr (q := 29) 3 (ty := .int) (vs := [.int (0 : Int32), .int (0 : Int32), .int (0 : Int32)]) (k' := 4) (n' := 12) d9_27 (hw _ (List.mem_of_getElem? (i := 10) rfl)) (by decide) (by decide) (by decide) (by decide) (by decide) rfl rfl rfl rfl rfl (fun a27 => ?_)
  show G 4 12 [(o, .inr ("com/example/terms_to_transitions/termstotransitions/equivalence/RefinablePartition", [("elements", "[I", .ref a6), ("locations", "[I", .ref a13), ("blocks", "[I", .ref a20), ("starts", "[I", .null), ("ends", "[I", .null), ("markedEnds", "[I", .null), ("touched", "[I", .null), ("blockCount", "I", .int (0 : Int32)), ("touchedCount", "I", .int (0 : Int32))])), (a6, .inl (.int, [.int (0 : Int32), .int (0 : Int32), .int (0 : Int32)])), (a13, .inl (.int, [.int (0 : Int32), .int (0 : Int32), .int (0 : Int32)])), (a20, .inl (.int, [.int (0 : Int32), .int (0 : Int32), .int (0 : Int32)])), (a27, .inl (.int, [.int (0 : Int32), .int (0 : Int32), .int (0 : Int32)]))] 29 [.val (.ref o), .val (.int (3 : Int32)), .unset] [.ref a27, .ref o]
  refine C.putf (q := 32) 0 3 (ty := (.array .int)) (H' := [(o, .inr ("com/example/terms_to_transitions/termstotransitions/equivalence/RefinablePartition", [("elements", "[I", .ref a6), ("locations", "[I", .ref a13), ("blocks", "[I", .ref a20), ("starts", "[I", .ref a27), ("ends", "[I", .null), ("markedEnds", "[I", .null), ("touched", "[I", .null), ("blockCount", "I", .int (0 : Int32)), ("touchedCount", "I", .int (0 : Int32))])), (a6, .inl (.int, [.int (0 : Int32), .int (0 : Int32), .int (0 : Int32)])), (a13, .inl (.int, [.int (0 : Int32), .int (0 : Int32), .int (0 : Int32)])), (a20, .inl (.int, [.int (0 : Int32), .int (0 : Int32), .int (0 : Int32)])), (a27, .inl (.int, [.int (0 : Int32), .int (0 : Int32), .int (0 : Int32)]))]) d9_29 (hw _ (List.mem_of_getElem? (i := 17) rfl)) (Or.inr ⟨(hw _ (List.mem_of_getElem? (i := 18) rfl)), rfl, rfl⟩) (hw _ (List.mem_of_getElem? (i := 2) rfl)) rfl rfl (by decide) rfl rfl rfl rfl ?_
  refine C.aloadN (q := 33) d9_32 rfl rfl rfl ?_
  refine C.iloadN (q := 34) d9_33 rfl rfl ?_
  refine C.newarr (q := 36) 3 (ty := .int) (vs := [.int (0 : Int32), .int (0 : Int32), .int (0 : Int32)]) (k' := 5) (n' := 15) d9_34 (hw _ (List.mem_of_getElem? (i := 10) rfl)) (by decide) (by decide) (by decide) (by decide) (by decide) rfl rfl rfl rfl rfl (fun a34 => ?_)
  show G 5 15 [(o, .inr ("com/example/terms_to_transitions/termstotransitions/equivalence/RefinablePartition", [("elements", "[I", .ref a6), ("locations", "[I", .ref a13), ("blocks", "[I", .ref a20), ("starts", "[I", .ref a27), ("ends", "[I", .null), ("markedEnds", "[I", .null), ("touched", "[I", .null), ("blockCount", "I", .int (0 : Int32)), ("touchedCount", "I", .int (0 : Int32))])), (a6, .inl (.int, [.int (0 : Int32), .int (0 : Int32), .int (0 : Int32)])), (a13, .inl (.int, [.int (0 : Int32), .int (0 : Int32), .int (0 : Int32)])), (a20, .inl (.int, [.int (0 : Int32), .int (0 : Int32), .int (0 : Int32)])), (a27, .inl (.int, [.int (0 : Int32), .int (0 : Int32), .int (0 : Int32)])), (a34, .inl (.int, [.int (0 : Int32), .int (0 : Int32), .int (0 : Int32)]))] 36 [.val (.ref o), .val (.int (3 : Int32)), .unset] [.ref a34, .ref o]
  refine C.putf (q := 39) 0 4 (ty := (.array .int)) (H' := [(o, .inr ("com/example/terms_to_transitions/termstotransitions/equivalence/RefinablePartition", [("elements", "[I", .ref a6), ("locations", "[I", .ref a13), ("blocks", "[I", .ref a20), ("starts", "[I", .ref a27), ("ends", "[I", .ref a34), ("markedEnds", "[I", .null), ("touched", "[I", .null), ("blockCount", "I", .int (0 : Int32)), ("touchedCount", "I", .int (0 : Int32))])), (a6, .inl (.int, [.int (0 : Int32), .int (0 : Int32), .int (0 : Int32)])), (a13, .inl (.int, [.int (0 : Int32), .int (0 : Int32), .int (0 : Int32)])), (a20, .inl (.int, [.int (0 : Int32), .int (0 : Int32), .int (0 : Int32)])), (a27, .inl (.int, [.int (0 : Int32), .int (0 : Int32), .int (0 : Int32)])), (a34, .inl (.int, [.int (0 : Int32), .int (0 : Int32), .int (0 : Int32)]))]) d9_36 (hw _ (List.mem_of_getElem? (i := 19) rfl)) (Or.inr ⟨(hw _ (List.mem_of_getElem? (i := 20) rfl)), rfl, rfl⟩) (hw _ (List.mem_of_getElem? (i := 2) rfl)) rfl rfl (by decide) rfl rfl rfl rfl ?_
  refine C.aloadN (q := 40) d9_39 rfl rfl rfl ?_
  refine C.iloadN (q := 41) d9_40 rfl rfl ?_
  refine C.newarr (q := 43) 3 (ty := .int) (vs := [.int (0 : Int32), .int (0 : Int32), .int (0 : Int32)]) (k' := 6) (n' := 18) d9_41 (hw _ (List.mem_of_getElem? (i := 10) rfl)) (by decide) (by decide) (by decide) (by decide) (by decide) rfl rfl rfl rfl rfl (fun a41 => ?_)
  show G 6 18 [(o, .inr ("com/example/terms_to_transitions/termstotransitions/equivalence/RefinablePartition", [("elements", "[I", .ref a6), ("locations", "[I", .ref a13), ("blocks", "[I", .ref a20), ("starts", "[I", .ref a27), ("ends", "[I", .ref a34), ("markedEnds", "[I", .null), ("touched", "[I", .null), ("blockCount", "I", .int (0 : Int32)), ("touchedCount", "I", .int (0 : Int32))])), (a6, .inl (.int, [.int (0 : Int32), .int (0 : Int32), .int (0 : Int32)])), (a13, .inl (.int, [.int (0 : Int32), .int (0 : Int32), .int (0 : Int32)])), (a20, .inl (.int, [.int (0 : Int32), .int (0 : Int32), .int (0 : Int32)])), (a27, .inl (.int, [.int (0 : Int32), .int (0 : Int32), .int (0 : Int32)])), (a34, .inl (.int, [.int (0 : Int32), .int (0 : Int32), .int (0 : Int32)])), (a41, .inl (.int, [.int (0 : Int32), .int (0 : Int32), .int (0 : Int32)]))] 43 [.val (.ref o), .val (.int (3 : Int32)), .unset] [.ref a41, .ref o]
  refine C.putf (q := 46) 0 5 (ty := (.array .int)) (H' := [(o, .inr ("com/example/terms_to_transitions/termstotransitions/equivalence/RefinablePartition", [("elements", "[I", .ref a6), ("locations", "[I", .ref a13), ("blocks", "[I", .ref a20), ("starts", "[I", .ref a27), ("ends", "[I", .ref a34), ("markedEnds", "[I", .ref a41), ("touched", "[I", .null), ("blockCount", "I", .int (0 : Int32)), ("touchedCount", "I", .int (0 : Int32))])), (a6, .inl (.int, [.int (0 : Int32), .int (0 : Int32), .int (0 : Int32)])), (a13, .inl (.int, [.int (0 : Int32), .int (0 : Int32), .int (0 : Int32)])), (a20, .inl (.int, [.int (0 : Int32), .int (0 : Int32), .int (0 : Int32)])), (a27, .inl (.int, [.int (0 : Int32), .int (0 : Int32), .int (0 : Int32)])), (a34, .inl (.int, [.int (0 : Int32), .int (0 : Int32), .int (0 : Int32)])), (a41, .inl (.int, [.int (0 : Int32), .int (0 : Int32), .int (0 : Int32)]))]) d9_43 (hw _ (List.mem_of_getElem? (i := 21) rfl)) (Or.inr ⟨(hw _ (List.mem_of_getElem? (i := 22) rfl)), rfl, rfl⟩) (hw _ (List.mem_of_getElem? (i := 2) rfl)) rfl rfl (by decide) rfl rfl rfl rfl ?_
  refine C.aloadN (q := 47) d9_46 rfl rfl rfl ?_
  refine C.iloadN (q := 48) d9_47 rfl rfl ?_
  refine C.newarr (q := 50) 3 (ty := .int) (vs := [.int (0 : Int32), .int (0 : Int32), .int (0 : Int32)]) (k' := 7) (n' := 21) d9_48 (hw _ (List.mem_of_getElem? (i := 10) rfl)) (by decide) (by decide) (by decide) (by decide) (by decide) rfl rfl rfl rfl rfl (fun a48 => ?_)
  show G 7 21 [(o, .inr ("com/example/terms_to_transitions/termstotransitions/equivalence/RefinablePartition", [("elements", "[I", .ref a6), ("locations", "[I", .ref a13), ("blocks", "[I", .ref a20), ("starts", "[I", .ref a27), ("ends", "[I", .ref a34), ("markedEnds", "[I", .ref a41), ("touched", "[I", .null), ("blockCount", "I", .int (0 : Int32)), ("touchedCount", "I", .int (0 : Int32))])), (a6, .inl (.int, [.int (0 : Int32), .int (0 : Int32), .int (0 : Int32)])), (a13, .inl (.int, [.int (0 : Int32), .int (0 : Int32), .int (0 : Int32)])), (a20, .inl (.int, [.int (0 : Int32), .int (0 : Int32), .int (0 : Int32)])), (a27, .inl (.int, [.int (0 : Int32), .int (0 : Int32), .int (0 : Int32)])), (a34, .inl (.int, [.int (0 : Int32), .int (0 : Int32), .int (0 : Int32)])), (a41, .inl (.int, [.int (0 : Int32), .int (0 : Int32), .int (0 : Int32)])), (a48, .inl (.int, [.int (0 : Int32), .int (0 : Int32), .int (0 : Int32)]))] 50 [.val (.ref o), .val (.int (3 : Int32)), .unset] [.ref a48, .ref o]
  refine C.putf (q := 53) 0 6 (ty := (.array .int)) (H' := [(o, .inr ("com/example/terms_to_transitions/termstotransitions/equivalence/RefinablePartition", [("elements", "[I", .ref a6), ("locations", "[I", .ref a13), ("blocks", "[I", .ref a20), ("starts", "[I", .ref a27), ("ends", "[I", .ref a34), ("markedEnds", "[I", .ref a41), ("touched", "[I", .ref a48), ("blockCount", "I", .int (0 : Int32)), ("touchedCount", "I", .int (0 : Int32))])), (a6, .inl (.int, [.int (0 : Int32), .int (0 : Int32), .int (0 : Int32)])), (a13, .inl (.int, [.int (0 : Int32), .int (0 : Int32), .int (0 : Int32)])), (a20, .inl (.int, [.int (0 : Int32), .int (0 : Int32), .int (0 : Int32)])), (a27, .inl (.int, [.int (0 : Int32), .int (0 : Int32), .int (0 : Int32)])), (a34, .inl (.int, [.int (0 : Int32), .int (0 : Int32), .int (0 : Int32)])), (a41, .inl (.int, [.int (0 : Int32), .int (0 : Int32), .int (0 : Int32)])), (a48, .inl (.int, [.int (0 : Int32), .int (0 : Int32), .int (0 : Int32)]))]) d9_50 (hw _ (List.mem_of_getElem? (i := 23) rfl)) (Or.inr ⟨(hw _ (List.mem_of_getElem? (i := 24) rfl)), rfl, rfl⟩) (hw _ (List.mem_of_getElem? (i := 2) rfl)) rfl rfl (by decide) rfl rfl rfl rfl ?_
  refine C.iconst (q := 54) (z := (0 : Int32)) d9_53 rfl rfl ?_
  refine C.istoreN (q := 55) (ls' := [.val (.ref o), .val (.int (3 : Int32)), .val (.int (0 : Int32))]) d9_54 rfl rfl ?_
  refine C.iloadN (q := 56) d9_55 rfl rfl ?_
  refine C.iloadN (q := 57) d9_56 rfl rfl ?_
  refine C.icmpGe (q := 80) (q' := 60) d9_57 (by decide) (by decide) rfl (fun h57 => ?_) (fun h57 => absurd (by decide) h57)
  refine C.aloadN (q := 61) d9_60 rfl rfl rfl ?_
  refine C.getf (q := 64) 0 0 (v := .ref a6) d9_61 (hw _ (List.mem_of_getElem? (i := 11) rfl)) rfl rfl rfl ?_
  refine C.iloadN (q := 65) d9_64 rfl rfl ?_
  refine C.iloadN (q := 66) d9_65 rfl rfl ?_
  refine C.iastore (q := 67) 1 (H' := [(o, .inr ("com/example/terms_to_transitions/termstotransitions/equivalence/RefinablePartition", [("elements", "[I", .ref a6), ("locations", "[I", .ref a13), ("blocks", "[I", .ref a20), ("starts", "[I", .ref a27), ("ends", "[I", .ref a34), ("markedEnds", "[I", .ref a41), ("touched", "[I", .ref a48), ("blockCount", "I", .int (0 : Int32)), ("touchedCount", "I", .int (0 : Int32))])), (a6, .inl (.int, [.int (0 : Int32), .int (0 : Int32), .int (0 : Int32)])), (a13, .inl (.int, [.int (0 : Int32), .int (0 : Int32), .int (0 : Int32)])), (a20, .inl (.int, [.int (0 : Int32), .int (0 : Int32), .int (0 : Int32)])), (a27, .inl (.int, [.int (0 : Int32), .int (0 : Int32), .int (0 : Int32)])), (a34, .inl (.int, [.int (0 : Int32), .int (0 : Int32), .int (0 : Int32)])), (a41, .inl (.int, [.int (0 : Int32), .int (0 : Int32), .int (0 : Int32)])), (a48, .inl (.int, [.int (0 : Int32), .int (0 : Int32), .int (0 : Int32)]))]) d9_66 rfl (by decide) (by show _ < 3; decide) rfl rfl ?_
  refine C.aloadN (q := 68) d9_67 rfl rfl rfl ?_
  refine C.getf (q := 71) 0 1 (v := .ref a13) d9_68 (hw _ (List.mem_of_getElem? (i := 13) rfl)) rfl rfl rfl ?_
  refine C.iloadN (q := 72) d9_71 rfl rfl ?_
  refine C.iloadN (q := 73) d9_72 rfl rfl ?_
  refine C.iastore (q := 74) 2 (H' := [(o, .inr ("com/example/terms_to_transitions/termstotransitions/equivalence/RefinablePartition", [("elements", "[I", .ref a6), ("locations", "[I", .ref a13), ("blocks", "[I", .ref a20), ("starts", "[I", .ref a27), ("ends", "[I", .ref a34), ("markedEnds", "[I", .ref a41), ("touched", "[I", .ref a48), ("blockCount", "I", .int (0 : Int32)), ("touchedCount", "I", .int (0 : Int32))])), (a6, .inl (.int, [.int (0 : Int32), .int (0 : Int32), .int (0 : Int32)])), (a13, .inl (.int, [.int (0 : Int32), .int (0 : Int32), .int (0 : Int32)])), (a20, .inl (.int, [.int (0 : Int32), .int (0 : Int32), .int (0 : Int32)])), (a27, .inl (.int, [.int (0 : Int32), .int (0 : Int32), .int (0 : Int32)])), (a34, .inl (.int, [.int (0 : Int32), .int (0 : Int32), .int (0 : Int32)])), (a41, .inl (.int, [.int (0 : Int32), .int (0 : Int32), .int (0 : Int32)])), (a48, .inl (.int, [.int (0 : Int32), .int (0 : Int32), .int (0 : Int32)]))]) d9_73 rfl (by decide) (by show _ < 3; decide) rfl rfl ?_
  refine C.iinc (q := 77) (z := (1 : Int32)) (ls' := [.val (.ref o), .val (.int (3 : Int32)), .val (.int ((0 : Int32) + (1 : Int32)))]) d9_74 rfl rfl rfl rfl ?_
  show G 7 21 [(o, .inr ("com/example/terms_to_transitions/termstotransitions/equivalence/RefinablePartition", [("elements", "[I", .ref a6), ("locations", "[I", .ref a13), ("blocks", "[I", .ref a20), ("starts", "[I", .ref a27), ("ends", "[I", .ref a34), ("markedEnds", "[I", .ref a41), ("touched", "[I", .ref a48), ("blockCount", "I", .int (0 : Int32)), ("touchedCount", "I", .int (0 : Int32))])), (a6, .inl (.int, [.int (0 : Int32), .int (0 : Int32), .int (0 : Int32)])), (a13, .inl (.int, [.int (0 : Int32), .int (0 : Int32), .int (0 : Int32)])), (a20, .inl (.int, [.int (0 : Int32), .int (0 : Int32), .int (0 : Int32)])), (a27, .inl (.int, [.int (0 : Int32), .int (0 : Int32), .int (0 : Int32)])), (a34, .inl (.int, [.int (0 : Int32), .int (0 : Int32), .int (0 : Int32)])), (a41, .inl (.int, [.int (0 : Int32), .int (0 : Int32), .int (0 : Int32)])), (a48, .inl (.int, [.int (0 : Int32), .int (0 : Int32), .int (0 : Int32)]))] 77 [.val (.ref o), .val (.int (3 : Int32)), .val (.int (1 : Int32))] []
  refine C.goto (q := 55) d9_77 (by decide) (by decide) ?_
  refine C.iloadN (q := 56) d9_55 rfl rfl ?_
  refine C.iloadN (q := 57) d9_56 rfl rfl ?_
  refine C.icmpGe (q := 80) (q' := 60) d9_57 (by decide) (by decide) rfl (fun h57 => ?_) (fun h57 => absurd (by decide) h57)
  refine C.aloadN (q := 61) d9_60 rfl rfl rfl ?_
  refine C.getf (q := 64) 0 0 (v := .ref a6) d9_61 (hw _ (List.mem_of_getElem? (i := 11) rfl)) rfl rfl rfl ?_
  refine C.iloadN (q := 65) d9_64 rfl rfl ?_
  refine C.iloadN (q := 66) d9_65 rfl rfl ?_
  refine C.iastore (q := 67) 1 (H' := [(o, .inr ("com/example/terms_to_transitions/termstotransitions/equivalence/RefinablePartition", [("elements", "[I", .ref a6), ("locations", "[I", .ref a13), ("blocks", "[I", .ref a20), ("starts", "[I", .ref a27), ("ends", "[I", .ref a34), ("markedEnds", "[I", .ref a41), ("touched", "[I", .ref a48), ("blockCount", "I", .int (0 : Int32)), ("touchedCount", "I", .int (0 : Int32))])), (a6, .inl (.int, [.int (0 : Int32), .int (1 : Int32), .int (0 : Int32)])), (a13, .inl (.int, [.int (0 : Int32), .int (0 : Int32), .int (0 : Int32)])), (a20, .inl (.int, [.int (0 : Int32), .int (0 : Int32), .int (0 : Int32)])), (a27, .inl (.int, [.int (0 : Int32), .int (0 : Int32), .int (0 : Int32)])), (a34, .inl (.int, [.int (0 : Int32), .int (0 : Int32), .int (0 : Int32)])), (a41, .inl (.int, [.int (0 : Int32), .int (0 : Int32), .int (0 : Int32)])), (a48, .inl (.int, [.int (0 : Int32), .int (0 : Int32), .int (0 : Int32)]))]) d9_66 rfl (by decide) (by show _ < 3; decide) rfl rfl ?_
  refine C.aloadN (q := 68) d9_67 rfl rfl rfl ?_
  refine C.getf (q := 71) 0 1 (v := .ref a13) d9_68 (hw _ (List.mem_of_getElem? (i := 13) rfl)) rfl rfl rfl ?_
  refine C.iloadN (q := 72) d9_71 rfl rfl ?_
  refine C.iloadN (q := 73) d9_72 rfl rfl ?_
  refine C.iastore (q := 74) 2 (H' := [(o, .inr ("com/example/terms_to_transitions/termstotransitions/equivalence/RefinablePartition", [("elements", "[I", .ref a6), ("locations", "[I", .ref a13), ("blocks", "[I", .ref a20), ("starts", "[I", .ref a27), ("ends", "[I", .ref a34), ("markedEnds", "[I", .ref a41), ("touched", "[I", .ref a48), ("blockCount", "I", .int (0 : Int32)), ("touchedCount", "I", .int (0 : Int32))])), (a6, .inl (.int, [.int (0 : Int32), .int (1 : Int32), .int (0 : Int32)])), (a13, .inl (.int, [.int (0 : Int32), .int (1 : Int32), .int (0 : Int32)])), (a20, .inl (.int, [.int (0 : Int32), .int (0 : Int32), .int (0 : Int32)])), (a27, .inl (.int, [.int (0 : Int32), .int (0 : Int32), .int (0 : Int32)])), (a34, .inl (.int, [.int (0 : Int32), .int (0 : Int32), .int (0 : Int32)])), (a41, .inl (.int, [.int (0 : Int32), .int (0 : Int32), .int (0 : Int32)])), (a48, .inl (.int, [.int (0 : Int32), .int (0 : Int32), .int (0 : Int32)]))]) d9_73 rfl (by decide) (by show _ < 3; decide) rfl rfl ?_
  refine C.iinc (q := 77) (z := (1 : Int32)) (ls' := [.val (.ref o), .val (.int (3 : Int32)), .val (.int ((1 : Int32) + (1 : Int32)))]) d9_74 rfl rfl rfl rfl ?_
  show G 7 21 [(o, .inr ("com/example/terms_to_transitions/termstotransitions/equivalence/RefinablePartition", [("elements", "[I", .ref a6), ("locations", "[I", .ref a13), ("blocks", "[I", .ref a20), ("starts", "[I", .ref a27), ("ends", "[I", .ref a34), ("markedEnds", "[I", .ref a41), ("touched", "[I", .ref a48), ("blockCount", "I", .int (0 : Int32)), ("touchedCount", "I", .int (0 : Int32))])), (a6, .inl (.int, [.int (0 : Int32), .int (1 : Int32), .int (0 : Int32)])), (a13, .inl (.int, [.int (0 : Int32), .int (1 : Int32), .int (0 : Int32)])), (a20, .inl (.int, [.int (0 : Int32), .int (0 : Int32), .int (0 : Int32)])), (a27, .inl (.int, [.int (0 : Int32), .int (0 : Int32), .int (0 : Int32)])), (a34, .inl (.int, [.int (0 : Int32), .int (0 : Int32), .int (0 : Int32)])), (a41, .inl (.int, [.int (0 : Int32), .int (0 : Int32), .int (0 : Int32)])), (a48, .inl (.int, [.int (0 : Int32), .int (0 : Int32), .int (0 : Int32)]))] 77 [.val (.ref o), .val (.int (3 : Int32)), .val (.int (2 : Int32))] []
  refine C.goto (q := 55) d9_77 (by decide) (by decide) ?_
  refine C.iloadN (q := 56) d9_55 rfl rfl ?_
  refine C.iloadN (q := 57) d9_56 rfl rfl ?_
  refine C.icmpGe (q := 80) (q' := 60) d9_57 (by decide) (by decide) rfl (fun h57 => ?_) (fun h57 => absurd (by decide) h57)
  refine C.aloadN (q := 61) d9_60 rfl rfl rfl ?_
  refine C.getf (q := 64) 0 0 (v := .ref a6) d9_61 (hw _ (List.mem_of_getElem? (i := 11) rfl)) rfl rfl rfl ?_
  refine C.iloadN (q := 65) d9_64 rfl rfl ?_
  refine C.iloadN (q := 66) d9_65 rfl rfl ?_
  refine C.iastore (q := 67) 1 (H' := [(o, .inr ("com/example/terms_to_transitions/termstotransitions/equivalence/RefinablePartition", [("elements", "[I", .ref a6), ("locations", "[I", .ref a13), ("blocks", "[I", .ref a20), ("starts", "[I", .ref a27), ("ends", "[I", .ref a34), ("markedEnds", "[I", .ref a41), ("touched", "[I", .ref a48), ("blockCount", "I", .int (0 : Int32)), ("touchedCount", "I", .int (0 : Int32))])), (a6, .inl (.int, [.int (0 : Int32), .int (1 : Int32), .int (2 : Int32)])), (a13, .inl (.int, [.int (0 : Int32), .int (1 : Int32), .int (0 : Int32)])), (a20, .inl (.int, [.int (0 : Int32), .int (0 : Int32), .int (0 : Int32)])), (a27, .inl (.int, [.int (0 : Int32), .int (0 : Int32), .int (0 : Int32)])), (a34, .inl (.int, [.int (0 : Int32), .int (0 : Int32), .int (0 : Int32)])), (a41, .inl (.int, [.int (0 : Int32), .int (0 : Int32), .int (0 : Int32)])), (a48, .inl (.int, [.int (0 : Int32), .int (0 : Int32), .int (0 : Int32)]))]) d9_66 rfl (by decide) (by show _ < 3; decide) rfl rfl ?_
  refine C.aloadN (q := 68) d9_67 rfl rfl rfl ?_
  refine C.getf (q := 71) 0 1 (v := .ref a13) d9_68 (hw _ (List.mem_of_getElem? (i := 13) rfl)) rfl rfl rfl ?_
  refine C.iloadN (q := 72) d9_71 rfl rfl ?_
  refine C.iloadN (q := 73) d9_72 rfl rfl ?_
  refine C.iastore (q := 74) 2 (H' := [(o, .inr ("com/example/terms_to_transitions/termstotransitions/equivalence/RefinablePartition", [("elements", "[I", .ref a6), ("locations", "[I", .ref a13), ("blocks", "[I", .ref a20), ("starts", "[I", .ref a27), ("ends", "[I", .ref a34), ("markedEnds", "[I", .ref a41), ("touched", "[I", .ref a48), ("blockCount", "I", .int (0 : Int32)), ("touchedCount", "I", .int (0 : Int32))])), (a6, .inl (.int, [.int (0 : Int32), .int (1 : Int32), .int (2 : Int32)])), (a13, .inl (.int, [.int (0 : Int32), .int (1 : Int32), .int (2 : Int32)])), (a20, .inl (.int, [.int (0 : Int32), .int (0 : Int32), .int (0 : Int32)])), (a27, .inl (.int, [.int (0 : Int32), .int (0 : Int32), .int (0 : Int32)])), (a34, .inl (.int, [.int (0 : Int32), .int (0 : Int32), .int (0 : Int32)])), (a41, .inl (.int, [.int (0 : Int32), .int (0 : Int32), .int (0 : Int32)])), (a48, .inl (.int, [.int (0 : Int32), .int (0 : Int32), .int (0 : Int32)]))]) d9_73 rfl (by decide) (by show _ < 3; decide) rfl rfl ?_
  refine C.iinc (q := 77) (z := (1 : Int32)) (ls' := [.val (.ref o), .val (.int (3 : Int32)), .val (.int ((2 : Int32) + (1 : Int32)))]) d9_74 rfl rfl rfl rfl ?_
  show G 7 21 [(o, .inr ("com/example/terms_to_transitions/termstotransitions/equivalence/RefinablePartition", [("elements", "[I", .ref a6), ("locations", "[I", .ref a13), ("blocks", "[I", .ref a20), ("starts", "[I", .ref a27), ("ends", "[I", .ref a34), ("markedEnds", "[I", .ref a41), ("touched", "[I", .ref a48), ("blockCount", "I", .int (0 : Int32)), ("touchedCount", "I", .int (0 : Int32))])), (a6, .inl (.int, [.int (0 : Int32), .int (1 : Int32), .int (2 : Int32)])), (a13, .inl (.int, [.int (0 : Int32), .int (1 : Int32), .int (2 : Int32)])), (a20, .inl (.int, [.int (0 : Int32), .int (0 : Int32), .int (0 : Int32)])), (a27, .inl (.int, [.int (0 : Int32), .int (0 : Int32), .int (0 : Int32)])), (a34, .inl (.int, [.int (0 : Int32), .int (0 : Int32), .int (0 : Int32)])), (a41, .inl (.int, [.int (0 : Int32), .int (0 : Int32), .int (0 : Int32)])), (a48, .inl (.int, [.int (0 : Int32), .int (0 : Int32), .int (0 : Int32)]))] 77 [.val (.ref o), .val (.int (3 : Int32)), .val (.int (3 : Int32))] []
  refine C.goto (q := 55) d9_77 (by decide) (by decide) ?_
  refine C.iloadN (q := 56) d9_55 rfl rfl ?_
  refine C.iloadN (q := 57) d9_56 rfl rfl ?_
  refine C.icmpGe (q := 80) (q' := 60) d9_57 (by decide) (by decide) rfl (fun h57 => absurd h57 (by decide)) (fun h57 => ?_)
  refine C.aloadN (q := 81) d9_80 rfl rfl rfl ?_
  refine C.getf (q := 84) 0 4 (v := .ref a34) d9_81 (hw _ (List.mem_of_getElem? (i := 19) rfl)) rfl rfl rfl ?_
  refine C.iconst (q := 85) (z := (0 : Int32)) d9_84 rfl rfl ?_
  refine C.iloadN (q := 86) d9_85 rfl rfl ?_
  refine C.iastore (q := 87) 5 (H' := [(o, .inr ("com/example/terms_to_transitions/termstotransitions/equivalence/RefinablePartition", [("elements", "[I", .ref a6), ("locations", "[I", .ref a13), ("blocks", "[I", .ref a20), ("starts", "[I", .ref a27), ("ends", "[I", .ref a34), ("markedEnds", "[I", .ref a41), ("touched", "[I", .ref a48), ("blockCount", "I", .int (0 : Int32)), ("touchedCount", "I", .int (0 : Int32))])), (a6, .inl (.int, [.int (0 : Int32), .int (1 : Int32), .int (2 : Int32)])), (a13, .inl (.int, [.int (0 : Int32), .int (1 : Int32), .int (2 : Int32)])), (a20, .inl (.int, [.int (0 : Int32), .int (0 : Int32), .int (0 : Int32)])), (a27, .inl (.int, [.int (0 : Int32), .int (0 : Int32), .int (0 : Int32)])), (a34, .inl (.int, [.int (3 : Int32), .int (0 : Int32), .int (0 : Int32)])), (a41, .inl (.int, [.int (0 : Int32), .int (0 : Int32), .int (0 : Int32)])), (a48, .inl (.int, [.int (0 : Int32), .int (0 : Int32), .int (0 : Int32)]))]) d9_86 rfl (by decide) (by show _ < 3; decide) rfl rfl ?_
  refine C.aloadN (q := 88) d9_87 rfl rfl rfl ?_
  refine C.iconst (q := 89) (z := (1 : Int32)) d9_88 rfl rfl ?_
  refine C.putf (q := 92) 0 7 (ty := .int) (H' := [(o, .inr ("com/example/terms_to_transitions/termstotransitions/equivalence/RefinablePartition", [("elements", "[I", .ref a6), ("locations", "[I", .ref a13), ("blocks", "[I", .ref a20), ("starts", "[I", .ref a27), ("ends", "[I", .ref a34), ("markedEnds", "[I", .ref a41), ("touched", "[I", .ref a48), ("blockCount", "I", .int (1 : Int32)), ("touchedCount", "I", .int (0 : Int32))])), (a6, .inl (.int, [.int (0 : Int32), .int (1 : Int32), .int (2 : Int32)])), (a13, .inl (.int, [.int (0 : Int32), .int (1 : Int32), .int (2 : Int32)])), (a20, .inl (.int, [.int (0 : Int32), .int (0 : Int32), .int (0 : Int32)])), (a27, .inl (.int, [.int (0 : Int32), .int (0 : Int32), .int (0 : Int32)])), (a34, .inl (.int, [.int (3 : Int32), .int (0 : Int32), .int (0 : Int32)])), (a41, .inl (.int, [.int (0 : Int32), .int (0 : Int32), .int (0 : Int32)])), (a48, .inl (.int, [.int (0 : Int32), .int (0 : Int32), .int (0 : Int32)]))]) d9_89 (hw _ (List.mem_of_getElem? (i := 25) rfl)) (Or.inl (hw _ (List.mem_of_getElem? (i := 26) rfl))) (hw _ (List.mem_of_getElem? (i := 2) rfl)) rfl rfl (by decide) rfl rfl rfl rfl ?_
  exact C.retV d9_92 (by decide) (by decide) ⟨rfl, a6, a13, a20, a27, a34, a41, a48, rfl⟩
theorem own_pn9_4 : plainFor (⟨"com/example/terms_to_transitions/termstotransitions/equivalence/RefinablePartition", "<init>", "(I)V"⟩ : MethodName) = true := by first | exact plainFor_of_name (by first | (simp [plainName, overriddenIn]; done) | decide +kernel) | decide +kernel
set_option maxHeartbeats 4000000 in
theorem own_ef9_4 (m : MethodId) (x0 : Addr) (x1 : Int32) : entryFrame m #[.ref x0, .int x1] 3 = mkF m 0 #[.val (.ref x0), .val (.int x1), .unset] [] := by first | (simp [entryFrame, mkF, argsToLocals, Value.category, maxLocals]; done) | rfl
set_option maxRecDepth 65536 in
set_option maxHeartbeats 40000000 in
theorem own_c9_4 (l : Launch) (Z : State) (a0 : Array Value) (n0 : Nat) (hw : ∀ d ∈ tables_1, d.before a0 Z = true) (ws : List Jvm.Cond) (o : Addr)  :
    own_Con l Z n0 (⟨"com/example/terms_to_transitions/termstotransitions/equivalence/RefinablePartition", "<init>", "(I)V"⟩ : MethodName) prog_7_method_1_code 3 none ws ({ frames := 1, cells := 7, slots := 28, locals := 12 } : Room) #[.ref o, .int (4 : Int32)] [(o, .inr ("com/example/terms_to_transitions/termstotransitions/equivalence/RefinablePartition", [("elements", "[I", .null), ("locations", "[I", .null), ("blocks", "[I", .null), ("starts", "[I", .null), ("ends", "[I", .null), ("markedEnds", "[I", .null), ("touched", "[I", .null), ("blockCount", "I", .int (0 : Int32)), ("touchedCount", "I", .int (0 : Int32))]))] (fun v H' => v = none ∧ ∃ r0 r1 r2 r3 r4 r5 r6, H' = [(o, .inr ("com/example/terms_to_transitions/termstotransitions/equivalence/RefinablePartition", [("elements", "[I", .ref r0), ("locations", "[I", .ref r1), ("blocks", "[I", .ref r2), ("starts", "[I", .ref r3), ("ends", "[I", .ref r4), ("markedEnds", "[I", .ref r5), ("touched", "[I", .ref r6), ("blockCount", "I", .int ((own_z 4).2.2.2.2.2.2.2.2)), ("touchedCount", "I", .int ((own_z 4).2.2.2.2.2.2.2.1))])), (r0, .inl (.int, (own_vl (own_z 4).1))), (r1, .inl (.int, (own_vl (own_z 4).2.1))), (r2, .inl (.int, (own_vl (own_z 4).2.2.1))), (r3, .inl (.int, (own_vl (own_z 4).2.2.2.1))), (r4, .inl (.int, (own_vl (own_z 4).2.2.2.2.1))), (r5, .inl (.int, (own_vl (own_z 4).2.2.2.2.2.1))), (r6, .inl (.int, (own_vl (own_z 4).2.2.2.2.2.2.1)))]) := by
  refine own_con own_pn9_4 (fun m_ => own_ef9_4 m_ o (4 : Int32)) ?_
  intro G C
  refine C.aloadN (q := 1) d9_0 rfl rfl rfl ?_
  refine C.initO (q := 4) 0 d9_1 (hw _ (List.mem_of_getElem? (i := 7) rfl)) (hw _ (List.mem_of_getElem? (i := 8) rfl)) (hw _ (List.mem_of_getElem? (i := 9) rfl)) rfl (by decide) (Nat.le_of_eq rfl) (by decide) rfl ?_
  refine C.aloadN (q := 5) d9_4 rfl rfl rfl ?_
  refine C.iloadN (q := 6) d9_5 rfl rfl ?_
  refine C.newarr (q := 8) 4 (ty := .int) (vs := [.int (0 : Int32), .int (0 : Int32), .int (0 : Int32), .int (0 : Int32)]) (k' := 1) (n' := 4) d9_6 (hw _ (List.mem_of_getElem? (i := 10) rfl)) (by decide) (by decide) (by decide) (by decide) (by decide) rfl rfl rfl rfl rfl (fun a6 => ?_)
  show G 1 4 [(o, .inr ("com/example/terms_to_transitions/termstotransitions/equivalence/RefinablePartition", [("elements", "[I", .null), ("locations", "[I", .null), ("blocks", "[I", .null), ("starts", "[I", .null), ("ends", "[I", .null), ("markedEnds", "[I", .null), ("touched", "[I", .null), ("blockCount", "I", .int (0 : Int32)), ("touchedCount", "I", .int (0 : Int32))])), (a6, .inl (.int, [.int (0 : Int32), .int (0 : Int32), .int (0 : Int32), .int (0 : Int32)]))] 8 [.val (.ref o), .val (.int (4 : Int32)), .unset] [.ref a6, .ref o]
  refine C.putf (q := 11) 0 0 (ty := (.array .int)) (H' := [(o, .inr ("com/example/terms_to_transitions/termstotransitions/equivalence/RefinablePartition", [("elements", "[I", .ref a6), ("locations", "[I", .null), ("blocks", "[I", .null), ("starts", "[I", .null), ("ends", "[I", .null), ("markedEnds", "[I", .null), ("touched", "[I", .null), ("blockCount", "I", .int (0 : Int32)), ("touchedCount", "I", .int (0 : Int32))])), (a6, .inl (.int, [.int (0 : Int32), .int (0 : Int32), .int (0 : Int32), .int (0 : Int32)]))]) d9_8 (hw _ (List.mem_of_getElem? (i := 11) rfl)) (Or.inr ⟨(hw _ (List.mem_of_getElem? (i := 12) rfl)), rfl, rfl⟩) (hw _ (List.mem_of_getElem? (i := 2) rfl)) rfl rfl (by decide) rfl rfl rfl rfl ?_
  refine C.aloadN (q := 12) d9_11 rfl rfl rfl ?_
  refine C.iloadN (q := 13) d9_12 rfl rfl ?_
  refine C.newarr (q := 15) 4 (ty := .int) (vs := [.int (0 : Int32), .int (0 : Int32), .int (0 : Int32), .int (0 : Int32)]) (k' := 2) (n' := 8) d9_13 (hw _ (List.mem_of_getElem? (i := 10) rfl)) (by decide) (by decide) (by decide) (by decide) (by decide) rfl rfl rfl rfl rfl (fun a13 => ?_)
  show G 2 8 [(o, .inr ("com/example/terms_to_transitions/termstotransitions/equivalence/RefinablePartition", [("elements", "[I", .ref a6), ("locations", "[I", .null), ("blocks", "[I", .null), ("starts", "[I", .null), ("ends", "[I", .null), ("markedEnds", "[I", .null), ("touched", "[I", .null), ("blockCount", "I", .int (0 : Int32)), ("touchedCount", "I", .int (0 : Int32))])), (a6, .inl (.int, [.int (0 : Int32), .int (0 : Int32), .int (0 : Int32), .int (0 : Int32)])), (a13, .inl (.int, [.int (0 : Int32), .int (0 : Int32), .int (0 : Int32), .int (0 : Int32)]))] 15 [.val (.ref o), .val (.int (4 : Int32)), .unset] [.ref a13, .ref o]
  refine C.putf (q := 18) 0 1 (ty := (.array .int)) (H' := [(o, .inr ("com/example/terms_to_transitions/termstotransitions/equivalence/RefinablePartition", [("elements", "[I", .ref a6), ("locations", "[I", .ref a13), ("blocks", "[I", .null), ("starts", "[I", .null), ("ends", "[I", .null), ("markedEnds", "[I", .null), ("touched", "[I", .null), ("blockCount", "I", .int (0 : Int32)), ("touchedCount", "I", .int (0 : Int32))])), (a6, .inl (.int, [.int (0 : Int32), .int (0 : Int32), .int (0 : Int32), .int (0 : Int32)])), (a13, .inl (.int, [.int (0 : Int32), .int (0 : Int32), .int (0 : Int32), .int (0 : Int32)]))]) d9_15 (hw _ (List.mem_of_getElem? (i := 13) rfl)) (Or.inr ⟨(hw _ (List.mem_of_getElem? (i := 14) rfl)), rfl, rfl⟩) (hw _ (List.mem_of_getElem? (i := 2) rfl)) rfl rfl (by decide) rfl rfl rfl rfl ?_
  refine C.aloadN (q := 19) d9_18 rfl rfl rfl ?_
  refine C.iloadN (q := 20) d9_19 rfl rfl ?_
  refine C.newarr (q := 22) 4 (ty := .int) (vs := [.int (0 : Int32), .int (0 : Int32), .int (0 : Int32), .int (0 : Int32)]) (k' := 3) (n' := 12) d9_20 (hw _ (List.mem_of_getElem? (i := 10) rfl)) (by decide) (by decide) (by decide) (by decide) (by decide) rfl rfl rfl rfl rfl (fun a20 => ?_)
  show G 3 12 [(o, .inr ("com/example/terms_to_transitions/termstotransitions/equivalence/RefinablePartition", [("elements", "[I", .ref a6), ("locations", "[I", .ref a13), ("blocks", "[I", .null), ("starts", "[I", .null), ("ends", "[I", .null), ("markedEnds", "[I", .null), ("touched", "[I", .null), ("blockCount", "I", .int (0 : Int32)), ("touchedCount", "I", .int (0 : Int32))])), (a6, .inl (.int, [.int (0 : Int32), .int (0 : Int32), .int (0 : Int32), .int (0 : Int32)])), (a13, .inl (.int, [.int (0 : Int32), .int (0 : Int32), .int (0 : Int32), .int (0 : Int32)])), (a20, .inl (.int, [.int (0 : Int32), .int (0 : Int32), .int (0 : Int32), .int (0 : Int32)]))] 22 [.val (.ref o), .val (.int (4 : Int32)), .unset] [.ref a20, .ref o]
  refine C.putf (q := 25) 0 2 (ty := (.array .int)) (H' := [(o, .inr ("com/example/terms_to_transitions/termstotransitions/equivalence/RefinablePartition", [("elements", "[I", .ref a6), ("locations", "[I", .ref a13), ("blocks", "[I", .ref a20), ("starts", "[I", .null), ("ends", "[I", .null), ("markedEnds", "[I", .null), ("touched", "[I", .null), ("blockCount", "I", .int (0 : Int32)), ("touchedCount", "I", .int (0 : Int32))])), (a6, .inl (.int, [.int (0 : Int32), .int (0 : Int32), .int (0 : Int32), .int (0 : Int32)])), (a13, .inl (.int, [.int (0 : Int32), .int (0 : Int32), .int (0 : Int32), .int (0 : Int32)])), (a20, .inl (.int, [.int (0 : Int32), .int (0 : Int32), .int (0 : Int32), .int (0 : Int32)]))]) d9_22 (hw _ (List.mem_of_getElem? (i := 15) rfl)) (Or.inr ⟨(hw _ (List.mem_of_getElem? (i := 16) rfl)), rfl, rfl⟩) (hw _ (List.mem_of_getElem? (i := 2) rfl)) rfl rfl (by decide) rfl rfl rfl rfl ?_
  refine C.aloadN (q := 26) d9_25 rfl rfl rfl ?_
  refine C.iloadN (q := 27) d9_26 rfl rfl ?_
  refine C.newarr (q := 29) 4 (ty := .int) (vs := [.int (0 : Int32), .int (0 : Int32), .int (0 : Int32), .int (0 : Int32)]) (k' := 4) (n' := 16) d9_27 (hw _ (List.mem_of_getElem? (i := 10) rfl)) (by decide) (by decide) (by decide) (by decide) (by decide) rfl rfl rfl rfl rfl (fun a27 => ?_)
  show G 4 16 [(o, .inr ("com/example/terms_to_transitions/termstotransitions/equivalence/RefinablePartition", [("elements", "[I", .ref a6), ("locations", "[I", .ref a13), ("blocks", "[I", .ref a20), ("starts", "[I", .null), ("ends", "[I", .null), ("markedEnds", "[I", .null), ("touched", "[I", .null), ("blockCount", "I", .int (0 : Int32)), ("touchedCount", "I", .int (0 : Int32))])), (a6, .inl (.int, [.int (0 : Int32), .int (0 : Int32), .int (0 : Int32), .int (0 : Int32)])), (a13, .inl (.int, [.int (0 : Int32), .int (0 : Int32), .int (0 : Int32), .int (0 : Int32)])), (a20, .inl (.int, [.int (0 : Int32), .int (0 : Int32), .int (0 : Int32), .int (0 : Int32)])), (a27, .inl (.int, [.int (0 : Int32), .int (0 : Int32), .int (0 : Int32), .int (0 : Int32)]))] 29 [.val (.ref o), .val (.int (4 : Int32)), .unset] [.ref a27, .ref o]
  refine C.putf (q := 32) 0 3 (ty := (.array .int)) (H' := [(o, .inr ("com/example/terms_to_transitions/termstotransitions/equivalence/RefinablePartition", [("elements", "[I", .ref a6), ("locations", "[I", .ref a13), ("blocks", "[I", .ref a20), ("starts", "[I", .ref a27), ("ends", "[I", .null), ("markedEnds", "[I", .null), ("touched", "[I", .null), ("blockCount", "I", .int (0 : Int32)), ("touchedCount", "I", .int (0 : Int32))])), (a6, .inl (.int, [.int (0 : Int32), .int (0 : Int32), .int (0 : Int32), .int (0 : Int32)])), (a13, .inl (.int, [.int (0 : Int32), .int (0 : Int32), .int (0 : Int32), .int (0 : Int32)])), (a20, .inl (.int, [.int (0 : Int32), .int (0 : Int32), .int (0 : Int32), .int (0 : Int32)])), (a27, .inl (.int, [.int (0 : Int32), .int (0 : Int32), .int (0 : Int32), .int (0 : Int32)]))]) d9_29 (hw _ (List.mem_of_getElem? (i := 17) rfl)) (Or.inr ⟨(hw _ (List.mem_of_getElem? (i := 18) rfl)), rfl, rfl⟩) (hw _ (List.mem_of_getElem? (i := 2) rfl)) rfl rfl (by decide) rfl rfl rfl rfl ?_
  refine C.aloadN (q := 33) d9_32 rfl rfl rfl ?_
  refine C.iloadN (q := 34) d9_33 rfl rfl ?_
  refine C.newarr (q := 36) 4 (ty := .int) (vs := [.int (0 : Int32), .int (0 : Int32), .int (0 : Int32), .int (0 : Int32)]) (k' := 5) (n' := 20) d9_34 (hw _ (List.mem_of_getElem? (i := 10) rfl)) (by decide) (by decide) (by decide) (by decide) (by decide) rfl rfl rfl rfl rfl (fun a34 => ?_)
  show G 5 20 [(o, .inr ("com/example/terms_to_transitions/termstotransitions/equivalence/RefinablePartition", [("elements", "[I", .ref a6), ("locations", "[I", .ref a13), ("blocks", "[I", .ref a20), ("starts", "[I", .ref a27), ("ends", "[I", .null), ("markedEnds", "[I", .null), ("touched", "[I", .null), ("blockCount", "I", .int (0 : Int32)), ("touchedCount", "I", .int (0 : Int32))])), (a6, .inl (.int, [.int (0 : Int32), .int (0 : Int32), .int (0 : Int32), .int (0 : Int32)])), (a13, .inl (.int, [.int (0 : Int32), .int (0 : Int32), .int (0 : Int32), .int (0 : Int32)])), (a20, .inl (.int, [.int (0 : Int32), .int (0 : Int32), .int (0 : Int32), .int (0 : Int32)])), (a27, .inl (.int, [.int (0 : Int32), .int (0 : Int32), .int (0 : Int32), .int (0 : Int32)])), (a34, .inl (.int, [.int (0 : Int32), .int (0 : Int32), .int (0 : Int32), .int (0 : Int32)]))] 36 [.val (.ref o), .val (.int (4 : Int32)), .unset] [.ref a34, .ref o]
  refine C.putf (q := 39) 0 4 (ty := (.array .int)) (H' := [(o, .inr ("com/example/terms_to_transitions/termstotransitions/equivalence/RefinablePartition", [("elements", "[I", .ref a6), ("locations", "[I", .ref a13), ("blocks", "[I", .ref a20), ("starts", "[I", .ref a27), ("ends", "[I", .ref a34), ("markedEnds", "[I", .null), ("touched", "[I", .null), ("blockCount", "I", .int (0 : Int32)), ("touchedCount", "I", .int (0 : Int32))])), (a6, .inl (.int, [.int (0 : Int32), .int (0 : Int32), .int (0 : Int32), .int (0 : Int32)])), (a13, .inl (.int, [.int (0 : Int32), .int (0 : Int32), .int (0 : Int32), .int (0 : Int32)])), (a20, .inl (.int, [.int (0 : Int32), .int (0 : Int32), .int (0 : Int32), .int (0 : Int32)])), (a27, .inl (.int, [.int (0 : Int32), .int (0 : Int32), .int (0 : Int32), .int (0 : Int32)])), (a34, .inl (.int, [.int (0 : Int32), .int (0 : Int32), .int (0 : Int32), .int (0 : Int32)]))]) d9_36 (hw _ (List.mem_of_getElem? (i := 19) rfl)) (Or.inr ⟨(hw _ (List.mem_of_getElem? (i := 20) rfl)), rfl, rfl⟩) (hw _ (List.mem_of_getElem? (i := 2) rfl)) rfl rfl (by decide) rfl rfl rfl rfl ?_
  refine C.aloadN (q := 40) d9_39 rfl rfl rfl ?_
  refine C.iloadN (q := 41) d9_40 rfl rfl ?_
  refine C.newarr (q := 43) 4 (ty := .int) (vs := [.int (0 : Int32), .int (0 : Int32), .int (0 : Int32), .int (0 : Int32)]) (k' := 6) (n' := 24) d9_41 (hw _ (List.mem_of_getElem? (i := 10) rfl)) (by decide) (by decide) (by decide) (by decide) (by decide) rfl rfl rfl rfl rfl (fun a41 => ?_)
  show G 6 24 [(o, .inr ("com/example/terms_to_transitions/termstotransitions/equivalence/RefinablePartition", [("elements", "[I", .ref a6), ("locations", "[I", .ref a13), ("blocks", "[I", .ref a20), ("starts", "[I", .ref a27), ("ends", "[I", .ref a34), ("markedEnds", "[I", .null), ("touched", "[I", .null), ("blockCount", "I", .int (0 : Int32)), ("touchedCount", "I", .int (0 : Int32))])), (a6, .inl (.int, [.int (0 : Int32), .int (0 : Int32), .int (0 : Int32), .int (0 : Int32)])), (a13, .inl (.int, [.int (0 : Int32), .int (0 : Int32), .int (0 : Int32), .int (0 : Int32)])), (a20, .inl (.int, [.int (0 : Int32), .int (0 : Int32), .int (0 : Int32), .int (0 : Int32)])), (a27, .inl (.int, [.int (0 : Int32), .int (0 : Int32), .int (0 : Int32), .int (0 : Int32)])), (a34, .inl (.int, [.int (0 : Int32), .int (0 : Int32), .int (0 : Int32), .int (0 : Int32)])), (a41, .inl (.int, [.int (0 : Int32), .int (0 : Int32), .int (0 : Int32), .int (0 : Int32)]))] 43 [.val (.ref o), .val (.int (4 : Int32)), .unset] [.ref a41, .ref o]
  refine C.putf (q := 46) 0 5 (ty := (.array .int)) (H' := [(o, .inr ("com/example/terms_to_transitions/termstotransitions/equivalence/RefinablePartition", [("elements", "[I", .ref a6), ("locations", "[I", .ref a13), ("blocks", "[I", .ref a20), ("starts", "[I", .ref a27), ("ends", "[I", .ref a34), ("markedEnds", "[I", .ref a41), ("touched", "[I", .null), ("blockCount", "I", .int (0 : Int32)), ("touchedCount", "I", .int (0 : Int32))])), (a6, .inl (.int, [.int (0 : Int32), .int (0 : Int32), .int (0 : Int32), .int (0 : Int32)])), (a13, .inl (.int, [.int (0 : Int32), .int (0 : Int32), .int (0 : Int32), .int (0 : Int32)])), (a20, .inl (.int, [.int (0 : Int32), .int (0 : Int32), .int (0 : Int32), .int (0 : Int32)])), (a27, .inl (.int, [.int (0 : Int32), .int (0 : Int32), .int (0 : Int32), .int (0 : Int32)])), (a34, .inl (.int, [.int (0 : Int32), .int (0 : Int32), .int (0 : Int32), .int (0 : Int32)])), (a41, .inl (.int, [.int (0 : Int32), .int (0 : Int32), .int (0 : Int32), .int (0 : Int32)]))]) d9_43 (hw _ (List.mem_of_getElem? (i := 21) rfl)) (Or.inr ⟨(hw _ (List.mem_of_getElem? (i := 22) rfl)), rfl, rfl⟩) (hw _ (List.mem_of_getElem? (i := 2) rfl)) rfl rfl (by decide) rfl rfl rfl rfl ?_
  refine C.aloadN (q := 47) d9_46 rfl rfl rfl ?_
  refine C.iloadN (q := 48) d9_47 rfl rfl ?_
  refine C.newarr (q := 50) 4 (ty := .int) (vs := [.int (0 : Int32), .int (0 : Int32), .int (0 : Int32), .int (0 : Int32)]) (k' := 7) (n' := 28) d9_48 (hw _ (List.mem_of_getElem? (i := 10) rfl)) (by decide) (by decide) (by decide) (by decide) (by decide) rfl rfl rfl rfl rfl (fun a48 => ?_)
  show G 7 28 [(o, .inr ("com/example/terms_to_transitions/termstotransitions/equivalence/RefinablePartition", [("elements", "[I", .ref a6), ("locations", "[I", .ref a13), ("blocks", "[I", .ref a20), ("starts", "[I", .ref a27), ("ends", "[I", .ref a34), ("markedEnds", "[I", .ref a41), ("touched", "[I", .null), ("blockCount", "I", .int (0 : Int32)), ("touchedCount", "I", .int (0 : Int32))])), (a6, .inl (.int, [.int (0 : Int32), .int (0 : Int32), .int (0 : Int32), .int (0 : Int32)])), (a13, .inl (.int, [.int (0 : Int32), .int (0 : Int32), .int (0 : Int32), .int (0 : Int32)])), (a20, .inl (.int, [.int (0 : Int32), .int (0 : Int32), .int (0 : Int32), .int (0 : Int32)])), (a27, .inl (.int, [.int (0 : Int32), .int (0 : Int32), .int (0 : Int32), .int (0 : Int32)])), (a34, .inl (.int, [.int (0 : Int32), .int (0 : Int32), .int (0 : Int32), .int (0 : Int32)])), (a41, .inl (.int, [.int (0 : Int32), .int (0 : Int32), .int (0 : Int32), .int (0 : Int32)])), (a48, .inl (.int, [.int (0 : Int32), .int (0 : Int32), .int (0 : Int32), .int (0 : Int32)]))] 50 [.val (.ref o), .val (.int (4 : Int32)), .unset] [.ref a48, .ref o]
  refine C.putf (q := 53) 0 6 (ty := (.array .int)) (H' := [(o, .inr ("com/example/terms_to_transitions/termstotransitions/equivalence/RefinablePartition", [("elements", "[I", .ref a6), ("locations", "[I", .ref a13), ("blocks", "[I", .ref a20), ("starts", "[I", .ref a27), ("ends", "[I", .ref a34), ("markedEnds", "[I", .ref a41), ("touched", "[I", .ref a48), ("blockCount", "I", .int (0 : Int32)), ("touchedCount", "I", .int (0 : Int32))])), (a6, .inl (.int, [.int (0 : Int32), .int (0 : Int32), .int (0 : Int32), .int (0 : Int32)])), (a13, .inl (.int, [.int (0 : Int32), .int (0 : Int32), .int (0 : Int32), .int (0 : Int32)])), (a20, .inl (.int, [.int (0 : Int32), .int (0 : Int32), .int (0 : Int32), .int (0 : Int32)])), (a27, .inl (.int, [.int (0 : Int32), .int (0 : Int32), .int (0 : Int32), .int (0 : Int32)])), (a34, .inl (.int, [.int (0 : Int32), .int (0 : Int32), .int (0 : Int32), .int (0 : Int32)])), (a41, .inl (.int, [.int (0 : Int32), .int (0 : Int32), .int (0 : Int32), .int (0 : Int32)])), (a48, .inl (.int, [.int (0 : Int32), .int (0 : Int32), .int (0 : Int32), .int (0 : Int32)]))]) d9_50 (hw _ (List.mem_of_getElem? (i := 23) rfl)) (Or.inr ⟨(hw _ (List.mem_of_getElem? (i := 24) rfl)), rfl, rfl⟩) (hw _ (List.mem_of_getElem? (i := 2) rfl)) rfl rfl (by decide) rfl rfl rfl rfl ?_
  refine C.iconst (q := 54) (z := (0 : Int32)) d9_53 rfl rfl ?_
  refine C.istoreN (q := 55) (ls' := [.val (.ref o), .val (.int (4 : Int32)), .val (.int (0 : Int32))]) d9_54 rfl rfl ?_
  refine C.iloadN (q := 56) d9_55 rfl rfl ?_
  refine C.iloadN (q := 57) d9_56 rfl rfl ?_
  refine C.icmpGe (q := 80) (q' := 60) d9_57 (by decide) (by decide) rfl (fun h57 => ?_) (fun h57 => absurd (by decide) h57)
  refine C.aloadN (q := 61) d9_60 rfl rfl rfl ?_
  refine C.getf (q := 64) 0 0 (v := .ref a6) d9_61 (hw _ (List.mem_of_getElem? (i := 11) rfl)) rfl rfl rfl ?_
  refine C.iloadN (q := 65) d9_64 rfl rfl ?_
  refine C.iloadN (q := 66) d9_65 rfl rfl ?_
  refine C.iastore (q := 67) 1 (H' := [(o, .inr ("com/example/terms_to_transitions/termstotransitions/equivalence/RefinablePartition", [("elements", "[I", .ref a6), ("locations", "[I", .ref a13), ("blocks", "[I", .ref a20), ("starts", "[I", .ref a27), ("ends", "[I", .ref a34), ("markedEnds", "[I", .ref a41), ("touched", "[I", .ref a48), ("blockCount", "I", .int (0 : Int32)), ("touchedCount", "I", .int (0 : Int32))])), (a6, .inl (.int, [.int (0 : Int32), .int (0 : Int32), .int (0 : Int32), .int (0 : Int32)])), (a13, .inl (.int, [.int (0 : Int32), .int (0 : Int32), .int (0 : Int32), .int (0 : Int32)])), (a20, .inl (.int, [.int (0 : Int32), .int (0 : Int32), .int (0 : Int32), .int (0 : Int32)])), (a27, .inl (.int, [.int (0 : Int32), .int (0 : Int32), .int (0 : Int32), .int (0 : Int32)])), (a34, .inl (.int, [.int (0 : Int32), .int (0 : Int32), .int (0 : Int32), .int (0 : Int32)])), (a41, .inl (.int, [.int (0 : Int32), .int (0 : Int32), .int (0 : Int32), .int (0 : Int32)])), (a48, .inl (.int, [.int (0 : Int32), .int (0 : Int32), .int (0 : Int32), .int (0 : Int32)]))]) d9_66 rfl (by decide) (by show _ < 4; decide) rfl rfl ?_
  refine C.aloadN (q := 68) d9_67 rfl rfl rfl ?_
  refine C.getf (q := 71) 0 1 (v := .ref a13) d9_68 (hw _ (List.mem_of_getElem? (i := 13) rfl)) rfl rfl rfl ?_
  refine C.iloadN (q := 72) d9_71 rfl rfl ?_
  refine C.iloadN (q := 73) d9_72 rfl rfl ?_
  refine C.iastore (q := 74) 2 (H' := [(o, .inr ("com/example/terms_to_transitions/termstotransitions/equivalence/RefinablePartition", [("elements", "[I", .ref a6), ("locations", "[I", .ref a13), ("blocks", "[I", .ref a20), ("starts", "[I", .ref a27), ("ends", "[I", .ref a34), ("markedEnds", "[I", .ref a41), ("touched", "[I", .ref a48), ("blockCount", "I", .int (0 : Int32)), ("touchedCount", "I", .int (0 : Int32))])), (a6, .inl (.int, [.int (0 : Int32), .int (0 : Int32), .int (0 : Int32), .int (0 : Int32)])), (a13, .inl (.int, [.int (0 : Int32), .int (0 : Int32), .int (0 : Int32), .int (0 : Int32)])), (a20, .inl (.int, [.int (0 : Int32), .int (0 : Int32), .int (0 : Int32), .int (0 : Int32)])), (a27, .inl (.int, [.int (0 : Int32), .int (0 : Int32), .int (0 : Int32), .int (0 : Int32)])), (a34, .inl (.int, [.int (0 : Int32), .int (0 : Int32), .int (0 : Int32), .int (0 : Int32)])), (a41, .inl (.int, [.int (0 : Int32), .int (0 : Int32), .int (0 : Int32), .int (0 : Int32)])), (a48, .inl (.int, [.int (0 : Int32), .int (0 : Int32), .int (0 : Int32), .int (0 : Int32)]))]) d9_73 rfl (by decide) (by show _ < 4; decide) rfl rfl ?_
  refine C.iinc (q := 77) (z := (1 : Int32)) (ls' := [.val (.ref o), .val (.int (4 : Int32)), .val (.int ((0 : Int32) + (1 : Int32)))]) d9_74 rfl rfl rfl rfl ?_
  show G 7 28 [(o, .inr ("com/example/terms_to_transitions/termstotransitions/equivalence/RefinablePartition", [("elements", "[I", .ref a6), ("locations", "[I", .ref a13), ("blocks", "[I", .ref a20), ("starts", "[I", .ref a27), ("ends", "[I", .ref a34), ("markedEnds", "[I", .ref a41), ("touched", "[I", .ref a48), ("blockCount", "I", .int (0 : Int32)), ("touchedCount", "I", .int (0 : Int32))])), (a6, .inl (.int, [.int (0 : Int32), .int (0 : Int32), .int (0 : Int32), .int (0 : Int32)])), (a13, .inl (.int, [.int (0 : Int32), .int (0 : Int32), .int (0 : Int32), .int (0 : Int32)])), (a20, .inl (.int, [.int (0 : Int32), .int (0 : Int32), .int (0 : Int32), .int (0 : Int32)])), (a27, .inl (.int, [.int (0 : Int32), .int (0 : Int32), .int (0 : Int32), .int (0 : Int32)])), (a34, .inl (.int, [.int (0 : Int32), .int (0 : Int32), .int (0 : Int32), .int (0 : Int32)])), (a41, .inl (.int, [.int (0 : Int32), .int (0 : Int32), .int (0 : Int32), .int (0 : Int32)])), (a48, .inl (.int, [.int (0 : Int32), .int (0 : Int32), .int (0 : Int32), .int (0 : Int32)]))] 77 [.val (.ref o), .val (.int (4 : Int32)), .val (.int (1 : Int32))] []
  refine C.goto (q := 55) d9_77 (by decide) (by decide) ?_
  refine C.iloadN (q := 56) d9_55 rfl rfl ?_
  refine C.iloadN (q := 57) d9_56 rfl rfl ?_
  refine C.icmpGe (q := 80) (q' := 60) d9_57 (by decide) (by decide) rfl (fun h57 => ?_) (fun h57 => absurd (by decide) h57)
  refine C.aloadN (q := 61) d9_60 rfl rfl rfl ?_
  refine C.getf (q := 64) 0 0 (v := .ref a6) d9_61 (hw _ (List.mem_of_getElem? (i := 11) rfl)) rfl rfl rfl ?_
  refine C.iloadN (q := 65) d9_64 rfl rfl ?_
  refine C.iloadN (q := 66) d9_65 rfl rfl ?_
  refine C.iastore (q := 67) 1 (H' := [(o, .inr ("com/example/terms_to_transitions/termstotransitions/equivalence/RefinablePartition", [("elements", "[I", .ref a6), ("locations", "[I", .ref a13), ("blocks", "[I", .ref a20), ("starts", "[I", .ref a27), ("ends", "[I", .ref a34), ("markedEnds", "[I", .ref a41), ("touched", "[I", .ref a48), ("blockCount", "I", .int (0 : Int32)), ("touchedCount", "I", .int (0 : Int32))])), (a6, .inl (.int, [.int (0 : Int32), .int (1 : Int32), .int (0 : Int32), .int (0 : Int32)])), (a13, .inl (.int, [.int (0 : Int32), .int (0 : Int32), .int (0 : Int32), .int (0 : Int32)])), (a20, .inl (.int, [.int (0 : Int32), .int (0 : Int32), .int (0 : Int32), .int (0 : Int32)])), (a27, .inl (.int, [.int (0 : Int32), .int (0 : Int32), .int (0 : Int32), .int (0 : Int32)])), (a34, .inl (.int, [.int (0 : Int32), .int (0 : Int32), .int (0 : Int32), .int (0 : Int32)])), (a41, .inl (.int, [.int (0 : Int32), .int (0 : Int32), .int (0 : Int32), .int (0 : Int32)])), (a48, .inl (.int, [.int (0 : Int32), .int (0 : Int32), .int (0 : Int32), .int (0 : Int32)]))]) d9_66 rfl (by decide) (by show _ < 4; decide) rfl rfl ?_
  refine C.aloadN (q := 68) d9_67 rfl rfl rfl ?_
  refine C.getf (q := 71) 0 1 (v := .ref a13) d9_68 (hw _ (List.mem_of_getElem? (i := 13) rfl)) rfl rfl rfl ?_
  refine C.iloadN (q := 72) d9_71 rfl rfl ?_
  refine C.iloadN (q := 73) d9_72 rfl rfl ?_
  refine C.iastore (q := 74) 2 (H' := [(o, .inr ("com/example/terms_to_transitions/termstotransitions/equivalence/RefinablePartition", [("elements", "[I", .ref a6), ("locations", "[I", .ref a13), ("blocks", "[I", .ref a20), ("starts", "[I", .ref a27), ("ends", "[I", .ref a34), ("markedEnds", "[I", .ref a41), ("touched", "[I", .ref a48), ("blockCount", "I", .int (0 : Int32)), ("touchedCount", "I", .int (0 : Int32))])), (a6, .inl (.int, [.int (0 : Int32), .int (1 : Int32), .int (0 : Int32), .int (0 : Int32)])), (a13, .inl (.int, [.int (0 : Int32), .int (1 : Int32), .int (0 : Int32), .int (0 : Int32)])), (a20, .inl (.int, [.int (0 : Int32), .int (0 : Int32), .int (0 : Int32), .int (0 : Int32)])), (a27, .inl (.int, [.int (0 : Int32), .int (0 : Int32), .int (0 : Int32), .int (0 : Int32)])), (a34, .inl (.int, [.int (0 : Int32), .int (0 : Int32), .int (0 : Int32), .int (0 : Int32)])), (a41, .inl (.int, [.int (0 : Int32), .int (0 : Int32), .int (0 : Int32), .int (0 : Int32)])), (a48, .inl (.int, [.int (0 : Int32), .int (0 : Int32), .int (0 : Int32), .int (0 : Int32)]))]) d9_73 rfl (by decide) (by show _ < 4; decide) rfl rfl ?_
  refine C.iinc (q := 77) (z := (1 : Int32)) (ls' := [.val (.ref o), .val (.int (4 : Int32)), .val (.int ((1 : Int32) + (1 : Int32)))]) d9_74 rfl rfl rfl rfl ?_
  show G 7 28 [(o, .inr ("com/example/terms_to_transitions/termstotransitions/equivalence/RefinablePartition", [("elements", "[I", .ref a6), ("locations", "[I", .ref a13), ("blocks", "[I", .ref a20), ("starts", "[I", .ref a27), ("ends", "[I", .ref a34), ("markedEnds", "[I", .ref a41), ("touched", "[I", .ref a48), ("blockCount", "I", .int (0 : Int32)), ("touchedCount", "I", .int (0 : Int32))])), (a6, .inl (.int, [.int (0 : Int32), .int (1 : Int32), .int (0 : Int32), .int (0 : Int32)])), (a13, .inl (.int, [.int (0 : Int32), .int (1 : Int32), .int (0 : Int32), .int (0 : Int32)])), (a20, .inl (.int, [.int (0 : Int32), .int (0 : Int32), .int (0 : Int32), .int (0 : Int32)])), (a27, .inl (.int, [.int (0 : Int32), .int (0 : Int32), .int (0 : Int32), .int (0 : Int32)])), (a34, .inl (.int, [.int (0 : Int32), .int (0 : Int32), .int (0 : Int32), .int (0 : Int32)])), (a41, .inl (.int, [.int (0 : Int32), .int (0 : Int32), .int (0 : Int32), .int (0 : Int32)])), (a48, .inl (.int, [.int (0 : Int32), .int (0 : Int32), .int (0 : Int32), .int (0 : Int32)]))] 77 [.val (.ref o), .val (.int (4 : Int32)), .val (.int (2 : Int32))] []
  refine C.goto (q := 55) d9_77 (by decide) (by decide) ?_
  refine C.iloadN (q := 56) d9_55 rfl rfl ?_
  refine C.iloadN (q := 57) d9_56 rfl rfl ?_
  refine C.icmpGe (q := 80) (q' := 60) d9_57 (by decide) (by decide) rfl (fun h57 => ?_) (fun h57 => absurd (by decide) h57)
  refine C.aloadN (q := 61) d9_60 rfl rfl rfl ?_
  refine C.getf (q := 64) 0 0 (v := .ref a6) d9_61 (hw _ (List.mem_of_getElem? (i := 11) rfl)) rfl rfl rfl ?_
  refine C.iloadN (q := 65) d9_64 rfl rfl ?_
  refine C.iloadN (q := 66) d9_65 rfl rfl ?_
  refine C.iastore (q := 67) 1 (H' := [(o, .inr ("com/example/terms_to_transitions/termstotransitions/equivalence/RefinablePartition", [("elements", "[I", .ref a6), ("locations", "[I", .ref a13), ("blocks", "[I", .ref a20), ("starts", "[I", .ref a27), ("ends", "[I", .ref a34), ("markedEnds", "[I", .ref a41), ("touched", "[I", .ref a48), ("blockCount", "I", .int (0 : Int32)), ("touchedCount", "I", .int (0 : Int32))])), (a6, .inl (.int, [.int (0 : Int32), .int (1 : Int32), .int (2 : Int32), .int (0 : Int32)])), (a13, .inl (.int, [.int (0 : Int32), .int (1 : Int32), .int (0 : Int32), .int (0 : Int32)])), (a20, .inl (.int, [.int (0 : Int32), .int (0 : Int32), .int (0 : Int32), .int (0 : Int32)])), (a27, .inl (.int, [.int (0 : Int32), .int (0 : Int32), .int (0 : Int32), .int (0 : Int32)])), (a34, .inl (.int, [.int (0 : Int32), .int (0 : Int32), .int (0 : Int32), .int (0 : Int32)])), (a41, .inl (.int, [.int (0 : Int32), .int (0 : Int32), .int (0 : Int32), .int (0 : Int32)])), (a48, .inl (.int, [.int (0 : Int32), .int (0 : Int32), .int (0 : Int32), .int (0 : Int32)]))]) d9_66 rfl (by decide) (by show _ < 4; decide) rfl rfl ?_
  refine C.aloadN (q := 68) d9_67 rfl rfl rfl ?_
  refine C.getf (q := 71) 0 1 (v := .ref a13) d9_68 (hw _ (List.mem_of_getElem? (i := 13) rfl)) rfl rfl rfl ?_
  refine C.iloadN (q := 72) d9_71 rfl rfl ?_
  refine C.iloadN (q := 73) d9_72 rfl rfl ?_
  refine C.iastore (q := 74) 2 (H' := [(o, .inr ("com/example/terms_to_transitions/termstotransitions/equivalence/RefinablePartition", [("elements", "[I", .ref a6), ("locations", "[I", .ref a13), ("blocks", "[I", .ref a20), ("starts", "[I", .ref a27), ("ends", "[I", .ref a34), ("markedEnds", "[I", .ref a41), ("touched", "[I", .ref a48), ("blockCount", "I", .int (0 : Int32)), ("touchedCount", "I", .int (0 : Int32))])), (a6, .inl (.int, [.int (0 : Int32), .int (1 : Int32), .int (2 : Int32), .int (0 : Int32)])), (a13, .inl (.int, [.int (0 : Int32), .int (1 : Int32), .int (2 : Int32), .int (0 : Int32)])), (a20, .inl (.int, [.int (0 : Int32), .int (0 : Int32), .int (0 : Int32), .int (0 : Int32)])), (a27, .inl (.int, [.int (0 : Int32), .int (0 : Int32), .int (0 : Int32), .int (0 : Int32)])), (a34, .inl (.int, [.int (0 : Int32), .int (0 : Int32), .int (0 : Int32), .int (0 : Int32)])), (a41, .inl (.int, [.int (0 : Int32), .int (0 : Int32), .int (0 : Int32), .int (0 : Int32)])), (a48, .inl (.int, [.int (0 : Int32), .int (0 : Int32), .int (0 : Int32), .int (0 : Int32)]))]) d9_73 rfl (by decide) (by show _ < 4; decide) rfl rfl ?_
  refine C.iinc (q := 77) (z := (1 : Int32)) (ls' := [.val (.ref o), .val (.int (4 : Int32)), .val (.int ((2 : Int32) + (1 : Int32)))]) d9_74 rfl rfl rfl rfl ?_
  show G 7 28 [(o, .inr ("com/example/terms_to_transitions/termstotransitions/equivalence/RefinablePartition", [("elements", "[I", .ref a6), ("locations", "[I", .ref a13), ("blocks", "[I", .ref a20), ("starts", "[I", .ref a27), ("ends", "[I", .ref a34), ("markedEnds", "[I", .ref a41), ("touched", "[I", .ref a48), ("blockCount", "I", .int (0 : Int32)), ("touchedCount", "I", .int (0 : Int32))])), (a6, .inl (.int, [.int (0 : Int32), .int (1 : Int32), .int (2 : Int32), .int (0 : Int32)])), (a13, .inl (.int, [.int (0 : Int32), .int (1 : Int32), .int (2 : Int32), .int (0 : Int32)])), (a20, .inl (.int, [.int (0 : Int32), .int (0 : Int32), .int (0 : Int32), .int (0 : Int32)])), (a27, .inl (.int, [.int (0 : Int32), .int (0 : Int32), .int (0 : Int32), .int (0 : Int32)])), (a34, .inl (.int, [.int (0 : Int32), .int (0 : Int32), .int (0 : Int32), .int (0 : Int32)])), (a41, .inl (.int, [.int (0 : Int32), .int (0 : Int32), .int (0 : Int32), .int (0 : Int32)])), (a48, .inl (.int, [.int (0 : Int32), .int (0 : Int32), .int (0 : Int32), .int (0 : Int32)]))] 77 [.val (.ref o), .val (.int (4 : Int32)), .val (.int (3 : Int32))] []
  refine C.goto (q := 55) d9_77 (by decide) (by decide) ?_
  refine C.iloadN (q := 56) d9_55 rfl rfl ?_
  refine C.iloadN (q := 57) d9_56 rfl rfl ?_
  refine C.icmpGe (q := 80) (q' := 60) d9_57 (by decide) (by decide) rfl (fun h57 => ?_) (fun h57 => absurd (by decide) h57)
  refine C.aloadN (q := 61) d9_60 rfl rfl rfl ?_
  refine C.getf (q := 64) 0 0 (v := .ref a6) d9_61 (hw _ (List.mem_of_getElem? (i := 11) rfl)) rfl rfl rfl ?_
  refine C.iloadN (q := 65) d9_64 rfl rfl ?_
  refine C.iloadN (q := 66) d9_65 rfl rfl ?_
  refine C.iastore (q := 67) 1 (H' := [(o, .inr ("com/example/terms_to_transitions/termstotransitions/equivalence/RefinablePartition", [("elements", "[I", .ref a6), ("locations", "[I", .ref a13), ("blocks", "[I", .ref a20), ("starts", "[I", .ref a27), ("ends", "[I", .ref a34), ("markedEnds", "[I", .ref a41), ("touched", "[I", .ref a48), ("blockCount", "I", .int (0 : Int32)), ("touchedCount", "I", .int (0 : Int32))])), (a6, .inl (.int, [.int (0 : Int32), .int (1 : Int32), .int (2 : Int32), .int (3 : Int32)])), (a13, .inl (.int, [.int (0 : Int32), .int (1 : Int32), .int (2 : Int32), .int (0 : Int32)])), (a20, .inl (.int, [.int (0 : Int32), .int (0 : Int32), .int (0 : Int32), .int (0 : Int32)])), (a27, .inl (.int, [.int (0 : Int32), .int (0 : Int32), .int (0 : Int32), .int (0 : Int32)])), (a34, .inl (.int, [.int (0 : Int32), .int (0 : Int32), .int (0 : Int32), .int (0 : Int32)])), (a41, .inl (.int, [.int (0 : Int32), .int (0 : Int32), .int (0 : Int32), .int (0 : Int32)])), (a48, .inl (.int, [.int (0 : Int32), .int (0 : Int32), .int (0 : Int32), .int (0 : Int32)]))]) d9_66 rfl (by decide) (by show _ < 4; decide) rfl rfl ?_
  refine C.aloadN (q := 68) d9_67 rfl rfl rfl ?_
  refine C.getf (q := 71) 0 1 (v := .ref a13) d9_68 (hw _ (List.mem_of_getElem? (i := 13) rfl)) rfl rfl rfl ?_
  refine C.iloadN (q := 72) d9_71 rfl rfl ?_
  refine C.iloadN (q := 73) d9_72 rfl rfl ?_
  refine C.iastore (q := 74) 2 (H' := [(o, .inr ("com/example/terms_to_transitions/termstotransitions/equivalence/RefinablePartition", [("elements", "[I", .ref a6), ("locations", "[I", .ref a13), ("blocks", "[I", .ref a20), ("starts", "[I", .ref a27), ("ends", "[I", .ref a34), ("markedEnds", "[I", .ref a41), ("touched", "[I", .ref a48), ("blockCount", "I", .int (0 : Int32)), ("touchedCount", "I", .int (0 : Int32))])), (a6, .inl (.int, [.int (0 : Int32), .int (1 : Int32), .int (2 : Int32), .int (3 : Int32)])), (a13, .inl (.int, [.int (0 : Int32), .int (1 : Int32), .int (2 : Int32), .int (3 : Int32)])), (a20, .inl (.int, [.int (0 : Int32), .int (0 : Int32), .int (0 : Int32), .int (0 : Int32)])), (a27, .inl (.int, [.int (0 : Int32), .int (0 : Int32), .int (0 : Int32), .int (0 : Int32)])), (a34, .inl (.int, [.int (0 : Int32), .int (0 : Int32), .int (0 : Int32), .int (0 : Int32)])), (a41, .inl (.int, [.int (0 : Int32), .int (0 : Int32), .int (0 : Int32), .int (0 : Int32)])), (a48, .inl (.int, [.int (0 : Int32), .int (0 : Int32), .int (0 : Int32), .int (0 : Int32)]))]) d9_73 rfl (by decide) (by show _ < 4; decide) rfl rfl ?_
  refine C.iinc (q := 77) (z := (1 : Int32)) (ls' := [.val (.ref o), .val (.int (4 : Int32)), .val (.int ((3 : Int32) + (1 : Int32)))]) d9_74 rfl rfl rfl rfl ?_
  show G 7 28 [(o, .inr ("com/example/terms_to_transitions/termstotransitions/equivalence/RefinablePartition", [("elements", "[I", .ref a6), ("locations", "[I", .ref a13), ("blocks", "[I", .ref a20), ("starts", "[I", .ref a27), ("ends", "[I", .ref a34), ("markedEnds", "[I", .ref a41), ("touched", "[I", .ref a48), ("blockCount", "I", .int (0 : Int32)), ("touchedCount", "I", .int (0 : Int32))])), (a6, .inl (.int, [.int (0 : Int32), .int (1 : Int32), .int (2 : Int32), .int (3 : Int32)])), (a13, .inl (.int, [.int (0 : Int32), .int (1 : Int32), .int (2 : Int32), .int (3 : Int32)])), (a20, .inl (.int, [.int (0 : Int32), .int (0 : Int32), .int (0 : Int32), .int (0 : Int32)])), (a27, .inl (.int, [.int (0 : Int32), .int (0 : Int32), .int (0 : Int32), .int (0 : Int32)])), (a34, .inl (.int, [.int (0 : Int32), .int (0 : Int32), .int (0 : Int32), .int (0 : Int32)])), (a41, .inl (.int, [.int (0 : Int32), .int (0 : Int32), .int (0 : Int32), .int (0 : Int32)])), (a48, .inl (.int, [.int (0 : Int32), .int (0 : Int32), .int (0 : Int32), .int (0 : Int32)]))] 77 [.val (.ref o), .val (.int (4 : Int32)), .val (.int (4 : Int32))] []
  refine C.goto (q := 55) d9_77 (by decide) (by decide) ?_
  refine C.iloadN (q := 56) d9_55 rfl rfl ?_
  refine C.iloadN (q := 57) d9_56 rfl rfl ?_
  refine C.icmpGe (q := 80) (q' := 60) d9_57 (by decide) (by decide) rfl (fun h57 => absurd h57 (by decide)) (fun h57 => ?_)
  refine C.aloadN (q := 81) d9_80 rfl rfl rfl ?_
  refine C.getf (q := 84) 0 4 (v := .ref a34) d9_81 (hw _ (List.mem_of_getElem? (i := 19) rfl)) rfl rfl rfl ?_
  refine C.iconst (q := 85) (z := (0 : Int32)) d9_84 rfl rfl ?_
  refine C.iloadN (q := 86) d9_85 rfl rfl ?_
  refine C.iastore (q := 87) 5 (H' := [(o, .inr ("com/example/terms_to_transitions/termstotransitions/equivalence/RefinablePartition", [("elements", "[I", .ref a6), ("locations", "[I", .ref a13), ("blocks", "[I", .ref a20), ("starts", "[I", .ref a27), ("ends", "[I", .ref a34), ("markedEnds", "[I", .ref a41), ("touched", "[I", .ref a48), ("blockCount", "I", .int (0 : Int32)), ("touchedCount", "I", .int (0 : Int32))])), (a6, .inl (.int, [.int (0 : Int32), .int (1 : Int32), .int (2 : Int32), .int (3 : Int32)])), (a13, .inl (.int, [.int (0 : Int32), .int (1 : Int32), .int (2 : Int32), .int (3 : Int32)])), (a20, .inl (.int, [.int (0 : Int32), .int (0 : Int32), .int (0 : Int32), .int (0 : Int32)])), (a27, .inl (.int, [.int (0 : Int32), .int (0 : Int32), .int (0 : Int32), .int (0 : Int32)])), (a34, .inl (.int, [.int (4 : Int32), .int (0 : Int32), .int (0 : Int32), .int (0 : Int32)])), (a41, .inl (.int, [.int (0 : Int32), .int (0 : Int32), .int (0 : Int32), .int (0 : Int32)])), (a48, .inl (.int, [.int (0 : Int32), .int (0 : Int32), .int (0 : Int32), .int (0 : Int32)]))]) d9_86 rfl (by decide) (by show _ < 4; decide) rfl rfl ?_
  refine C.aloadN (q := 88) d9_87 rfl rfl rfl ?_
  refine C.iconst (q := 89) (z := (1 : Int32)) d9_88 rfl rfl ?_
  refine C.putf (q := 92) 0 7 (ty := .int) (H' := [(o, .inr ("com/example/terms_to_transitions/termstotransitions/equivalence/RefinablePartition", [("elements", "[I", .ref a6), ("locations", "[I", .ref a13), ("blocks", "[I", .ref a20), ("starts", "[I", .ref a27), ("ends", "[I", .ref a34), ("markedEnds", "[I", .ref a41), ("touched", "[I", .ref a48), ("blockCount", "I", .int (1 : Int32)), ("touchedCount", "I", .int (0 : Int32))])), (a6, .inl (.int, [.int (0 : Int32), .int (1 : Int32), .int (2 : Int32), .int (3 : Int32)])), (a13, .inl (.int, [.int (0 : Int32), .int (1 : Int32), .int (2 : Int32), .int (3 : Int32)])), (a20, .inl (.int, [.int (0 : Int32), .int (0 : Int32), .int (0 : Int32), .int (0 : Int32)])), (a27, .inl (.int, [.int (0 : Int32), .int (0 : Int32), .int (0 : Int32), .int (0 : Int32)])), (a34, .inl (.int, [.int (4 : Int32), .int (0 : Int32), .int (0 : Int32), .int (0 : Int32)])), (a41, .inl (.int, [.int (0 : Int32), .int (0 : Int32), .int (0 : Int32), .int (0 : Int32)])), (a48, .inl (.int, [.int (0 : Int32), .int (0 : Int32), .int (0 : Int32), .int (0 : Int32)]))]) d9_89 (hw _ (List.mem_of_getElem? (i := 25) rfl)) (Or.inl (hw _ (List.mem_of_getElem? (i := 26) rfl))) (hw _ (List.mem_of_getElem? (i := 2) rfl)) rfl rfl (by decide) rfl rfl rfl rfl ?_
  exact C.retV d9_92 (by decide) (by decide) ⟨rfl, a6, a13, a20, a27, a34, a41, a48, rfl⟩
theorem own_c9 (l : Launch) (Z : State) (a0 : Array Value) (n0 : Nat) (hw : ∀ d ∈ tables_1, d.before a0 Z = true) (ws : List Jvm.Cond) (o : Addr) (n : Nat) (hn : 1 ≤ n ∧ n ≤ 4) :
    own_Con l Z n0 (⟨"com/example/terms_to_transitions/termstotransitions/equivalence/RefinablePartition", "<init>", "(I)V"⟩ : MethodName) prog_7_method_1_code 3 none ws ({ frames := 1, cells := 7, slots := 28, locals := 12 } : Room) #[.ref o, .int (Int32.ofNat n)] [(o, .inr ("com/example/terms_to_transitions/termstotransitions/equivalence/RefinablePartition", [("elements", "[I", .null), ("locations", "[I", .null), ("blocks", "[I", .null), ("starts", "[I", .null), ("ends", "[I", .null), ("markedEnds", "[I", .null), ("touched", "[I", .null), ("blockCount", "I", .int (0 : Int32)), ("touchedCount", "I", .int (0 : Int32))]))] (fun v H' => v = none ∧ ∃ r0 r1 r2 r3 r4 r5 r6, H' = [(o, .inr ("com/example/terms_to_transitions/termstotransitions/equivalence/RefinablePartition", [("elements", "[I", .ref r0), ("locations", "[I", .ref r1), ("blocks", "[I", .ref r2), ("starts", "[I", .ref r3), ("ends", "[I", .ref r4), ("markedEnds", "[I", .ref r5), ("touched", "[I", .ref r6), ("blockCount", "I", .int ((own_z n).2.2.2.2.2.2.2.2)), ("touchedCount", "I", .int ((own_z n).2.2.2.2.2.2.2.1))])), (r0, .inl (.int, (own_vl (own_z n).1))), (r1, .inl (.int, (own_vl (own_z n).2.1))), (r2, .inl (.int, (own_vl (own_z n).2.2.1))), (r3, .inl (.int, (own_vl (own_z n).2.2.2.1))), (r4, .inl (.int, (own_vl (own_z n).2.2.2.2.1))), (r5, .inl (.int, (own_vl (own_z n).2.2.2.2.2.1))), (r6, .inl (.int, (own_vl (own_z n).2.2.2.2.2.2.1)))]) := by
  match n, hn with
  | 1, _ => exact own_c9_1 l Z a0 n0 hw ws o
  | 2, _ => exact own_c9_2 l Z a0 n0 hw ws o
  | 3, _ => exact own_c9_3 l Z a0 n0 hw ws o
  | 4, _ => exact own_c9_4 l Z a0 n0 hw ws o
def own_HT (o ls r0 r1 r2 r3 r4 r5 r6 : Addr) (s : own_RP) : own_Hs := [(o, .inr ("com/example/terms_to_transitions/termstotransitions/equivalence/RefinablePartition", [("elements", "[I", .ref r0), ("locations", "[I", .ref r1), ("blocks", "[I", .ref r2), ("starts", "[I", .ref r3), ("ends", "[I", .ref r4), ("markedEnds", "[I", .ref r5), ("touched", "[I", .ref r6), ("blockCount", "I", .int s.2.2.2.2.2.2.2.2), ("touchedCount", "I", .int s.2.2.2.2.2.2.2.1)])), (r0, .inl (.int, (own_vl s.1))), (r1, .inl (.int, (own_vl s.2.1))), (r2, .inl (.int, (own_vl s.2.2.1))), (r3, .inl (.int, (own_vl s.2.2.2.1))), (r4, .inl (.int, (own_vl s.2.2.2.2.1))), (r5, .inl (.int, (own_vl s.2.2.2.2.2.1))), (r6, .inl (.int, (own_vl s.2.2.2.2.2.2.1))), (ls, .inr ("com/example/terms_to_transitions/termstotransitions/equivalence/RefinablePartitionMarkPinLaw", []))]
def own_mk (s : own_RP) (e : Int32) : own_RP := own_mkS s.1 s.2.1 s.2.2.1 s.2.2.2.1 s.2.2.2.2.1 s.2.2.2.2.2.1 s.2.2.2.2.2.2.1 s.2.2.2.2.2.2.2.1 s.2.2.2.2.2.2.2.2 e
def own_mr (s : own_RP) (e : Int32) : Int32 := own_mkR s.2.1 s.2.2.1 s.2.2.2.2.2.1 e
abbrev own_mp (s : own_RP) (e : Int32) : Prop := own_mkP s.1 s.2.1 s.2.2.1 s.2.2.2.1 s.2.2.2.2.2.1 s.2.2.2.2.2.2.1 s.2.2.2.2.2.2.2.1 e
abbrev own_sb (s : own_RP) : Prop := 0 ≤ s.2.2.2.2.2.2.2.1.toInt ∧ own_splB s.2.2.2.2.2.2.2.1.toInt.toNat s 0 = true
abbrev own_tlP (n a b c d : Nat) (fb fd : Int32) (s : own_RP) : Prop := own_ib 0 s.2.2.1 ∧ (1 < Int32.ofNat n → own_ib 1 s.2.2.1) ∧ (2 < Int32.ofNat n → own_ib 2 s.2.2.1) ∧ (3 < Int32.ofNat n → own_ib 3 s.2.2.1) ∧ own_ag (own_g s.2.2.1 0) (if 1 < Int32.ofNat n then own_g s.2.2.1 1 else -1) (own_sg 0 (Int32.ofNat a) (Int32.ofNat b) fb (Int32.ofNat c) (Int32.ofNat d) fd) (own_sg 1 (Int32.ofNat a) (Int32.ofNat b) fb (Int32.ofNat c) (Int32.ofNat d) fd) (if 1 < Int32.ofNat n then 1 else 0) = 1 ∧ own_ag (own_g s.2.2.1 0) (if 2 < Int32.ofNat n then own_g s.2.2.1 2 else -1) (own_sg 0 (Int32.ofNat a) (Int32.ofNat b) fb (Int32.ofNat c) (Int32.ofNat d) fd) (own_sg 2 (Int32.ofNat a) (Int32.ofNat b) fb (Int32.ofNat c) (Int32.ofNat d) fd) (if 2 < Int32.ofNat n then 1 else 0) = 1 ∧ own_ag (if 1 < Int32.ofNat n then own_g s.2.2.1 1 else -1) (if 2 < Int32.ofNat n then own_g s.2.2.1 2 else -1) (own_sg 1 (Int32.ofNat a) (Int32.ofNat b) fb (Int32.ofNat c) (Int32.ofNat d) fd) (own_sg 2 (Int32.ofNat a) (Int32.ofNat b) fb (Int32.ofNat c) (Int32.ofNat d) fd) (if 2 < Int32.ofNat n then 1 else 0) = 1 ∧ own_ag (own_g s.2.2.1 0) (if 3 < Int32.ofNat n then own_g s.2.2.1 3 else -1) (own_sg 0 (Int32.ofNat a) (Int32.ofNat b) fb (Int32.ofNat c) (Int32.ofNat d) fd) (own_sg 3 (Int32.ofNat a) (Int32.ofNat b) fb (Int32.ofNat c) (Int32.ofNat d) fd) (if 3 < Int32.ofNat n then 1 else 0) = 1 ∧ own_ag (if 1 < Int32.ofNat n then own_g s.2.2.1 1 else -1) (if 3 < Int32.ofNat n then own_g s.2.2.1 3 else -1) (own_sg 1 (Int32.ofNat a) (Int32.ofNat b) fb (Int32.ofNat c) (Int32.ofNat d) fd) (own_sg 3 (Int32.ofNat a) (Int32.ofNat b) fb (Int32.ofNat c) (Int32.ofNat d) fd) (if 3 < Int32.ofNat n then 1 else 0) = 1 ∧ own_ag (if 2 < Int32.ofNat n then own_g s.2.2.1 2 else -1) (if 3 < Int32.ofNat n then own_g s.2.2.1 3 else -1) (own_sg 2 (Int32.ofNat a) (Int32.ofNat b) fb (Int32.ofNat c) (Int32.ofNat d) fd) (own_sg 3 (Int32.ofNat a) (Int32.ofNat b) fb (Int32.ofNat c) (Int32.ofNat d) fd) (if 3 < Int32.ofNat n then 1 else 0) = 1 ∧ s.2.2.2.2.2.2.2.2 = (((((((((1 : Int32) <<< ((own_sg 0 (Int32.ofNat a) (Int32.ofNat b) fb (Int32.ofNat c) (Int32.ofNat d) fd) &&& (31 : Int32))) ||| (if 1 < Int32.ofNat n then ((1 : Int32) <<< ((own_sg 1 (Int32.ofNat a) (Int32.ofNat b) fb (Int32.ofNat c) (Int32.ofNat d) fd) &&& (31 : Int32))) else 0)) ||| (if 2 < Int32.ofNat n then ((1 : Int32) <<< ((own_sg 2 (Int32.ofNat a) (Int32.ofNat b) fb (Int32.ofNat c) (Int32.ofNat d) fd) &&& (31 : Int32))) else 0)) ||| (if 3 < Int32.ofNat n then ((1 : Int32) <<< ((own_sg 3 (Int32.ofNat a) (Int32.ofNat b) fb (Int32.ofNat c) (Int32.ofNat d) fd) &&& (31 : Int32))) else 0)) &&& (1 : Int32)) + (((((((1 : Int32) <<< ((own_sg 0 (Int32.ofNat a) (Int32.ofNat b) fb (Int32.ofNat c) (Int32.ofNat d) fd) &&& (31 : Int32))) ||| (if 1 < Int32.ofNat n then ((1 : Int32) <<< ((own_sg 1 (Int32.ofNat a) (Int32.ofNat b) fb (Int32.ofNat c) (Int32.ofNat d) fd) &&& (31 : Int32))) else 0)) ||| (if 2 < Int32.ofNat n then ((1 : Int32) <<< ((own_sg 2 (Int32.ofNat a) (Int32.ofNat b) fb (Int32.ofNat c) (Int32.ofNat d) fd) &&& (31 : Int32))) else 0)) ||| (if 3 < Int32.ofNat n then ((1 : Int32) <<< ((own_sg 3 (Int32.ofNat a) (Int32.ofNat b) fb (Int32.ofNat c) (Int32.ofNat d) fd) &&& (31 : Int32))) else 0)) >>> ((1 : Int32) &&& (31 : Int32))) &&& (1 : Int32))) + (((((((1 : Int32) <<< ((own_sg 0 (Int32.ofNat a) (Int32.ofNat b) fb (Int32.ofNat c) (Int32.ofNat d) fd) &&& (31 : Int32))) ||| (if 1 < Int32.ofNat n then ((1 : Int32) <<< ((own_sg 1 (Int32.ofNat a) (Int32.ofNat b) fb (Int32.ofNat c) (Int32.ofNat d) fd) &&& (31 : Int32))) else 0)) ||| (if 2 < Int32.ofNat n then ((1 : Int32) <<< ((own_sg 2 (Int32.ofNat a) (Int32.ofNat b) fb (Int32.ofNat c) (Int32.ofNat d) fd) &&& (31 : Int32))) else 0)) ||| (if 3 < Int32.ofNat n then ((1 : Int32) <<< ((own_sg 3 (Int32.ofNat a) (Int32.ofNat b) fb (Int32.ofNat c) (Int32.ofNat d) fd) &&& (31 : Int32))) else 0)) >>> ((2 : Int32) &&& (31 : Int32))) &&& (1 : Int32))) + (((((((1 : Int32) <<< ((own_sg 0 (Int32.ofNat a) (Int32.ofNat b) fb (Int32.ofNat c) (Int32.ofNat d) fd) &&& (31 : Int32))) ||| (if 1 < Int32.ofNat n then ((1 : Int32) <<< ((own_sg 1 (Int32.ofNat a) (Int32.ofNat b) fb (Int32.ofNat c) (Int32.ofNat d) fd) &&& (31 : Int32))) else 0)) ||| (if 2 < Int32.ofNat n then ((1 : Int32) <<< ((own_sg 2 (Int32.ofNat a) (Int32.ofNat b) fb (Int32.ofNat c) (Int32.ofNat d) fd) &&& (31 : Int32))) else 0)) ||| (if 3 < Int32.ofNat n then ((1 : Int32) <<< ((own_sg 3 (Int32.ofNat a) (Int32.ofNat b) fb (Int32.ofNat c) (Int32.ofNat d) fd) &&& (31 : Int32))) else 0)) >>> ((3 : Int32) &&& (31 : Int32))) &&& (1 : Int32)))
def own_mpB (s : own_RP) (e : Int32) : Bool := decide (own_mp s e)
def own_sbB (s : own_RP) : Bool := decide (own_sb s)
set_option maxHeartbeats 4000000 in
def own_tlB (n a b c d : Nat) (fb fd : Int32) (s : own_RP) : Bool := decide (own_tlP n a b c d fb fd s)
def own_ch00 (n a b c d : Nat) : Bool := own_mpB (own_z n) (Int32.ofNat a) && own_sbB (own_mk (own_z n) (Int32.ofNat a)) && own_mpB (own_split (own_mk (own_z n) (Int32.ofNat a))) (Int32.ofNat c) && own_mpB (own_mk (own_split (own_mk (own_z n) (Int32.ofNat a))) (Int32.ofNat c)) (Int32.ofNat c) && own_sbB (own_mk (own_mk (own_split (own_mk (own_z n) (Int32.ofNat a))) (Int32.ofNat c)) (Int32.ofNat c)) && decide (own_mr (own_z n) (Int32.ofNat a) = 1) && decide (own_mr (own_split (own_mk (own_z n) (Int32.ofNat a))) (Int32.ofNat c) = 1) && decide (own_mr (own_mk (own_split (own_mk (own_z n) (Int32.ofNat a))) (Int32.ofNat c)) (Int32.ofNat c) = 0) && own_tlB n a b c d 0 0 (own_split (own_mk (own_mk (own_split (own_mk (own_z n) (Int32.ofNat a))) (Int32.ofNat c)) (Int32.ofNat c)))
set_option maxRecDepth 65536 in
set_option maxHeartbeats 40000000 in
theorem own_all00_1 : ((List.range 1).all fun a => (List.range 1).all fun b => (List.range 1).all fun c => (List.range 1).all fun d => own_ch00 1 a b c d) = true := by decide +kernel
set_option maxRecDepth 65536 in
set_option maxHeartbeats 40000000 in
theorem own_all00_2 : ((List.range 2).all fun a => (List.range 2).all fun b => (List.range 2).all fun c => (List.range 2).all fun d => own_ch00 2 a b c d) = true := by decide +kernel
set_option maxRecDepth 65536 in
set_option maxHeartbeats 40000000 in
theorem own_all00_3 : ((List.range 3).all fun a => (List.range 3).all fun b => (List.range 3).all fun c => (List.range 3).all fun d => own_ch00 3 a b c d) = true := by decide +kernel
set_option maxRecDepth 65536 in
set_option maxHeartbeats 40000000 in
theorem own_all00_4 : ((List.range 4).all fun a => (List.range 4).all fun b => (List.range 4).all fun c => (List.range 4).all fun d => own_ch00 4 a b c d) = true := by decide +kernel
theorem own_all00 {n a b c d : Nat} (h1 : 1 ≤ n) (h4 : n ≤ 4) (ha : a < n) (hb : b < n) (hc : c < n) (hd : d < n) : own_mp (own_z n) (Int32.ofNat a) ∧ own_sb (own_mk (own_z n) (Int32.ofNat a)) ∧ own_mp (own_split (own_mk (own_z n) (Int32.ofNat a))) (Int32.ofNat c) ∧ own_mp (own_mk (own_split (own_mk (own_z n) (Int32.ofNat a))) (Int32.ofNat c)) (Int32.ofNat c) ∧ own_sb (own_mk (own_mk (own_split (own_mk (own_z n) (Int32.ofNat a))) (Int32.ofNat c)) (Int32.ofNat c)) ∧ own_mr (own_z n) (Int32.ofNat a) = 1 ∧ own_mr (own_split (own_mk (own_z n) (Int32.ofNat a))) (Int32.ofNat c) = 1 ∧ own_mr (own_mk (own_split (own_mk (own_z n) (Int32.ofNat a))) (Int32.ofNat c)) (Int32.ofNat c) = 0 ∧ own_tlP n a b c d 0 0 (own_split (own_mk (own_mk (own_split (own_mk (own_z n) (Int32.ofNat a))) (Int32.ofNat c)) (Int32.ofNat c))) := by
  have k : own_ch00 n a b c d = true := by
    match n, h1, h4 with
    | 1, _, _ => exact List.all_eq_true.1 (List.all_eq_true.1 (List.all_eq_true.1 (List.all_eq_true.1 own_all00_1 a (List.mem_range.2 ha)) b (List.mem_range.2 hb)) c (List.mem_range.2 hc)) d (List.mem_range.2 hd)
    | 2, _, _ => exact List.all_eq_true.1 (List.all_eq_true.1 (List.all_eq_true.1 (List.all_eq_true.1 own_all00_2 a (List.mem_range.2 ha)) b (List.mem_range.2 hb)) c (List.mem_range.2 hc)) d (List.mem_range.2 hd)
    | 3, _, _ => exact List.all_eq_true.1 (List.all_eq_true.1 (List.all_eq_true.1 (List.all_eq_true.1 own_all00_3 a (List.mem_range.2 ha)) b (List.mem_range.2 hb)) c (List.mem_range.2 hc)) d (List.mem_range.2 hd)
    | 4, _, _ => exact List.all_eq_true.1 (List.all_eq_true.1 (List.all_eq_true.1 (List.all_eq_true.1 own_all00_4 a (List.mem_range.2 ha)) b (List.mem_range.2 hb)) c (List.mem_range.2 hc)) d (List.mem_range.2 hd)
  simpa only [own_ch00, own_mpB, own_sbB, own_tlB, Bool.and_eq_true, decide_eq_true_eq, and_assoc] using k
def own_ch01 (n a b c d : Nat) : Bool := own_mpB (own_z n) (Int32.ofNat a) && own_sbB (own_mk (own_z n) (Int32.ofNat a)) && own_mpB (own_split (own_mk (own_z n) (Int32.ofNat a))) (Int32.ofNat c) && own_mpB (own_mk (own_split (own_mk (own_z n) (Int32.ofNat a))) (Int32.ofNat c)) (Int32.ofNat d) && own_mpB (own_mk (own_mk (own_split (own_mk (own_z n) (Int32.ofNat a))) (Int32.ofNat c)) (Int32.ofNat d)) (Int32.ofNat c) && own_sbB (own_mk (own_mk (own_mk (own_split (own_mk (own_z n) (Int32.ofNat a))) (Int32.ofNat c)) (Int32.ofNat d)) (Int32.ofNat c)) && decide (own_mr (own_z n) (Int32.ofNat a) = 1) && decide (own_mr (own_split (own_mk (own_z n) (Int32.ofNat a))) (Int32.ofNat c) = 1) && decide (own_mr (own_mk (own_split (own_mk (own_z n) (Int32.ofNat a))) (Int32.ofNat c)) (Int32.ofNat d) = (if Int32.ofNat d = Int32.ofNat c then 0 else 1)) && decide (own_mr (own_mk (own_mk (own_split (own_mk (own_z n) (Int32.ofNat a))) (Int32.ofNat c)) (Int32.ofNat d)) (Int32.ofNat c) = 0) && own_tlB n a b c d 0 1 (own_split (own_mk (own_mk (own_mk (own_split (own_mk (own_z n) (Int32.ofNat a))) (Int32.ofNat c)) (Int32.ofNat d)) (Int32.ofNat c)))
set_option maxRecDepth 65536 in
set_option maxHeartbeats 40000000 in
theorem own_all01_1 : ((List.range 1).all fun a => (List.range 1).all fun b => (List.range 1).all fun c => (List.range 1).all fun d => own_ch01 1 a b c d) = true := by decide +kernel
set_option maxRecDepth 65536 in
set_option maxHeartbeats 40000000 in
theorem own_all01_2 : ((List.range 2).all fun a => (List.range 2).all fun b => (List.range 2).all fun c => (List.range 2).all fun d => own_ch01 2 a b c d) = true := by decide +kernel
set_option maxRecDepth 65536 in
set_option maxHeartbeats 40000000 in
theorem own_all01_3 : ((List.range 3).all fun a => (List.range 3).all fun b => (List.range 3).all fun c => (List.range 3).all fun d => own_ch01 3 a b c d) = true := by decide +kernel
set_option maxRecDepth 65536 in
set_option maxHeartbeats 40000000 in
theorem own_all01_4 : ((List.range 4).all fun a => (List.range 4).all fun b => (List.range 4).all fun c => (List.range 4).all fun d => own_ch01 4 a b c d) = true := by decide +kernel
theorem own_all01 {n a b c d : Nat} (h1 : 1 ≤ n) (h4 : n ≤ 4) (ha : a < n) (hb : b < n) (hc : c < n) (hd : d < n) : own_mp (own_z n) (Int32.ofNat a) ∧ own_sb (own_mk (own_z n) (Int32.ofNat a)) ∧ own_mp (own_split (own_mk (own_z n) (Int32.ofNat a))) (Int32.ofNat c) ∧ own_mp (own_mk (own_split (own_mk (own_z n) (Int32.ofNat a))) (Int32.ofNat c)) (Int32.ofNat d) ∧ own_mp (own_mk (own_mk (own_split (own_mk (own_z n) (Int32.ofNat a))) (Int32.ofNat c)) (Int32.ofNat d)) (Int32.ofNat c) ∧ own_sb (own_mk (own_mk (own_mk (own_split (own_mk (own_z n) (Int32.ofNat a))) (Int32.ofNat c)) (Int32.ofNat d)) (Int32.ofNat c)) ∧ own_mr (own_z n) (Int32.ofNat a) = 1 ∧ own_mr (own_split (own_mk (own_z n) (Int32.ofNat a))) (Int32.ofNat c) = 1 ∧ own_mr (own_mk (own_split (own_mk (own_z n) (Int32.ofNat a))) (Int32.ofNat c)) (Int32.ofNat d) = (if Int32.ofNat d = Int32.ofNat c then 0 else 1) ∧ own_mr (own_mk (own_mk (own_split (own_mk (own_z n) (Int32.ofNat a))) (Int32.ofNat c)) (Int32.ofNat d)) (Int32.ofNat c) = 0 ∧ own_tlP n a b c d 0 1 (own_split (own_mk (own_mk (own_mk (own_split (own_mk (own_z n) (Int32.ofNat a))) (Int32.ofNat c)) (Int32.ofNat d)) (Int32.ofNat c))) := by
  have k : own_ch01 n a b c d = true := by
    match n, h1, h4 with
    | 1, _, _ => exact List.all_eq_true.1 (List.all_eq_true.1 (List.all_eq_true.1 (List.all_eq_true.1 own_all01_1 a (List.mem_range.2 ha)) b (List.mem_range.2 hb)) c (List.mem_range.2 hc)) d (List.mem_range.2 hd)
    | 2, _, _ => exact List.all_eq_true.1 (List.all_eq_true.1 (List.all_eq_true.1 (List.all_eq_true.1 own_all01_2 a (List.mem_range.2 ha)) b (List.mem_range.2 hb)) c (List.mem_range.2 hc)) d (List.mem_range.2 hd)
    | 3, _, _ => exact List.all_eq_true.1 (List.all_eq_true.1 (List.all_eq_true.1 (List.all_eq_true.1 own_all01_3 a (List.mem_range.2 ha)) b (List.mem_range.2 hb)) c (List.mem_range.2 hc)) d (List.mem_range.2 hd)
    | 4, _, _ => exact List.all_eq_true.1 (List.all_eq_true.1 (List.all_eq_true.1 (List.all_eq_true.1 own_all01_4 a (List.mem_range.2 ha)) b (List.mem_range.2 hb)) c (List.mem_range.2 hc)) d (List.mem_range.2 hd)
  simpa only [own_ch01, own_mpB, own_sbB, own_tlB, Bool.and_eq_true, decide_eq_true_eq, and_assoc] using k
def own_ch10 (n a b c d : Nat) : Bool := own_mpB (own_z n) (Int32.ofNat a) && own_mpB (own_mk (own_z n) (Int32.ofNat a)) (Int32.ofNat b) && own_sbB (own_mk (own_mk (own_z n) (Int32.ofNat a)) (Int32.ofNat b)) && own_mpB (own_split (own_mk (own_mk (own_z n) (Int32.ofNat a)) (Int32.ofNat b))) (Int32.ofNat c) && own_mpB (own_mk (own_split (own_mk (own_mk (own_z n) (Int32.ofNat a)) (Int32.ofNat b))) (Int32.ofNat c)) (Int32.ofNat c) && own_sbB (own_mk (own_mk (own_split (own_mk (own_mk (own_z n) (Int32.ofNat a)) (Int32.ofNat b))) (Int32.ofNat c)) (Int32.ofNat c)) && decide (own_mr (own_z n) (Int32.ofNat a) = 1) && decide (own_mr (own_mk (own_z n) (Int32.ofNat a)) (Int32.ofNat b) = (if Int32.ofNat b = Int32.ofNat a then 0 else 1)) && decide (own_mr (own_split (own_mk (own_mk (own_z n) (Int32.ofNat a)) (Int32.ofNat b))) (Int32.ofNat c) = 1) && decide (own_mr (own_mk (own_split (own_mk (own_mk (own_z n) (Int32.ofNat a)) (Int32.ofNat b))) (Int32.ofNat c)) (Int32.ofNat c) = 0) && own_tlB n a b c d 1 0 (own_split (own_mk (own_mk (own_split (own_mk (own_mk (own_z n) (Int32.ofNat a)) (Int32.ofNat b))) (Int32.ofNat c)) (Int32.ofNat c)))
set_option maxRecDepth 65536 in
set_option maxHeartbeats 40000000 in
theorem own_all10_1 : ((List.range 1).all fun a => (List.range 1).all fun b => (List.range 1).all fun c => (List.range 1).all fun d => own_ch10 1 a b c d) = true := by decide +kernel
set_option maxRecDepth 65536 in
set_option maxHeartbeats 40000000 in
theorem own_all10_2 : ((List.range 2).all fun a => (List.range 2).all fun b => (List.range 2).all fun c => (List.range 2).all fun d => own_ch10 2 a b c d) = true := by decide +kernel
set_option maxRecDepth 65536 in
set_option maxHeartbeats 40000000 in
theorem own_all10_3 : ((List.range 3).all fun a => (List.range 3).all fun b => (List.range 3).all fun c => (List.range 3).all fun d => own_ch10 3 a b c d) = true := by decide +kernel
set_option maxRecDepth 65536 in
set_option maxHeartbeats 40000000 in
theorem own_all10_4 : ((List.range 4).all fun a => (List.range 4).all fun b => (List.range 4).all fun c => (List.range 4).all fun d => own_ch10 4 a b c d) = true := by decide +kernel
theorem own_all10 {n a b c d : Nat} (h1 : 1 ≤ n) (h4 : n ≤ 4) (ha : a < n) (hb : b < n) (hc : c < n) (hd : d < n) : own_mp (own_z n) (Int32.ofNat a) ∧ own_mp (own_mk (own_z n) (Int32.ofNat a)) (Int32.ofNat b) ∧ own_sb (own_mk (own_mk (own_z n) (Int32.ofNat a)) (Int32.ofNat b)) ∧ own_mp (own_split (own_mk (own_mk (own_z n) (Int32.ofNat a)) (Int32.ofNat b))) (Int32.ofNat c) ∧ own_mp (own_mk (own_split (own_mk (own_mk (own_z n) (Int32.ofNat a)) (Int32.ofNat b))) (Int32.ofNat c)) (Int32.ofNat c) ∧ own_sb (own_mk (own_mk (own_split (own_mk (own_mk (own_z n) (Int32.ofNat a)) (Int32.ofNat b))) (Int32.ofNat c)) (Int32.ofNat c)) ∧ own_mr (own_z n) (Int32.ofNat a) = 1 ∧ own_mr (own_mk (own_z n) (Int32.ofNat a)) (Int32.ofNat b) = (if Int32.ofNat b = Int32.ofNat a then 0 else 1) ∧ own_mr (own_split (own_mk (own_mk (own_z n) (Int32.ofNat a)) (Int32.ofNat b))) (Int32.ofNat c) = 1 ∧ own_mr (own_mk (own_split (own_mk (own_mk (own_z n) (Int32.ofNat a)) (Int32.ofNat b))) (Int32.ofNat c)) (Int32.ofNat c) = 0 ∧ own_tlP n a b c d 1 0 (own_split (own_mk (own_mk (own_split (own_mk (own_mk (own_z n) (Int32.ofNat a)) (Int32.ofNat b))) (Int32.ofNat c)) (Int32.ofNat c))) := by
  have k : own_ch10 n a b c d = true := by
    match n, h1, h4 with
    | 1, _, _ => exact List.all_eq_true.1 (List.all_eq_true.1 (List.all_eq_true.1 (List.all_eq_true.1 own_all10_1 a (List.mem_range.2 ha)) b (List.mem_range.2 hb)) c (List.mem_range.2 hc)) d (List.mem_range.2 hd)
    | 2, _, _ => exact List.all_eq_true.1 (List.all_eq_true.1 (List.all_eq_true.1 (List.all_eq_true.1 own_all10_2 a (List.mem_range.2 ha)) b (List.mem_range.2 hb)) c (List.mem_range.2 hc)) d (List.mem_range.2 hd)
    | 3, _, _ => exact List.all_eq_true.1 (List.all_eq_true.1 (List.all_eq_true.1 (List.all_eq_true.1 own_all10_3 a (List.mem_range.2 ha)) b (List.mem_range.2 hb)) c (List.mem_range.2 hc)) d (List.mem_range.2 hd)
    | 4, _, _ => exact List.all_eq_true.1 (List.all_eq_true.1 (List.all_eq_true.1 (List.all_eq_true.1 own_all10_4 a (List.mem_range.2 ha)) b (List.mem_range.2 hb)) c (List.mem_range.2 hc)) d (List.mem_range.2 hd)
  simpa only [own_ch10, own_mpB, own_sbB, own_tlB, Bool.and_eq_true, decide_eq_true_eq, and_assoc] using k
def own_ch11 (n a b c d : Nat) : Bool := own_mpB (own_z n) (Int32.ofNat a) && own_mpB (own_mk (own_z n) (Int32.ofNat a)) (Int32.ofNat b) && own_sbB (own_mk (own_mk (own_z n) (Int32.ofNat a)) (Int32.ofNat b)) && own_mpB (own_split (own_mk (own_mk (own_z n) (Int32.ofNat a)) (Int32.ofNat b))) (Int32.ofNat c) && own_mpB (own_mk (own_split (own_mk (own_mk (own_z n) (Int32.ofNat a)) (Int32.ofNat b))) (Int32.ofNat c)) (Int32.ofNat d) && own_mpB (own_mk (own_mk (own_split (own_mk (own_mk (own_z n) (Int32.ofNat a)) (Int32.ofNat b))) (Int32.ofNat c)) (Int32.ofNat d)) (Int32.ofNat c) && own_sbB (own_mk (own_mk (own_mk (own_split (own_mk (own_mk (own_z n) (Int32.ofNat a)) (Int32.ofNat b))) (Int32.ofNat c)) (Int32.ofNat d)) (Int32.ofNat c)) && decide (own_mr (own_z n) (Int32.ofNat a) = 1) && decide (own_mr (own_mk (own_z n) (Int32.ofNat a)) (Int32.ofNat b) = (if Int32.ofNat b = Int32.ofNat a then 0 else 1)) && decide (own_mr (own_split (own_mk (own_mk (own_z n) (Int32.ofNat a)) (Int32.ofNat b))) (Int32.ofNat c) = 1) && decide (own_mr (own_mk (own_split (own_mk (own_mk (own_z n) (Int32.ofNat a)) (Int32.ofNat b))) (Int32.ofNat c)) (Int32.ofNat d) = (if Int32.ofNat d = Int32.ofNat c then 0 else 1)) && decide (own_mr (own_mk (own_mk (own_split (own_mk (own_mk (own_z n) (Int32.ofNat a)) (Int32.ofNat b))) (Int32.ofNat c)) (Int32.ofNat d)) (Int32.ofNat c) = 0) && own_tlB n a b c d 1 1 (own_split (own_mk (own_mk (own_mk (own_split (own_mk (own_mk (own_z n) (Int32.ofNat a)) (Int32.ofNat b))) (Int32.ofNat c)) (Int32.ofNat d)) (Int32.ofNat c)))
set_option maxRecDepth 65536 in
set_option maxHeartbeats 40000000 in
theorem own_all11_1 : ((List.range 1).all fun a => (List.range 1).all fun b => (List.range 1).all fun c => (List.range 1).all fun d => own_ch11 1 a b c d) = true := by decide +kernel
set_option maxRecDepth 65536 in
set_option maxHeartbeats 40000000 in
theorem own_all11_2 : ((List.range 2).all fun a => (List.range 2).all fun b => (List.range 2).all fun c => (List.range 2).all fun d => own_ch11 2 a b c d) = true := by decide +kernel
set_option maxRecDepth 65536 in
set_option maxHeartbeats 40000000 in
theorem own_all11_3 : ((List.range 3).all fun a => (List.range 3).all fun b => (List.range 3).all fun c => (List.range 3).all fun d => own_ch11 3 a b c d) = true := by decide +kernel
set_option maxRecDepth 65536 in
set_option maxHeartbeats 40000000 in
theorem own_all11_4 : ((List.range 4).all fun a => (List.range 4).all fun b => (List.range 4).all fun c => (List.range 4).all fun d => own_ch11 4 a b c d) = true := by decide +kernel
theorem own_all11 {n a b c d : Nat} (h1 : 1 ≤ n) (h4 : n ≤ 4) (ha : a < n) (hb : b < n) (hc : c < n) (hd : d < n) : own_mp (own_z n) (Int32.ofNat a) ∧ own_mp (own_mk (own_z n) (Int32.ofNat a)) (Int32.ofNat b) ∧ own_sb (own_mk (own_mk (own_z n) (Int32.ofNat a)) (Int32.ofNat b)) ∧ own_mp (own_split (own_mk (own_mk (own_z n) (Int32.ofNat a)) (Int32.ofNat b))) (Int32.ofNat c) ∧ own_mp (own_mk (own_split (own_mk (own_mk (own_z n) (Int32.ofNat a)) (Int32.ofNat b))) (Int32.ofNat c)) (Int32.ofNat d) ∧ own_mp (own_mk (own_mk (own_split (own_mk (own_mk (own_z n) (Int32.ofNat a)) (Int32.ofNat b))) (Int32.ofNat c)) (Int32.ofNat d)) (Int32.ofNat c) ∧ own_sb (own_mk (own_mk (own_mk (own_split (own_mk (own_mk (own_z n) (Int32.ofNat a)) (Int32.ofNat b))) (Int32.ofNat c)) (Int32.ofNat d)) (Int32.ofNat c)) ∧ own_mr (own_z n) (Int32.ofNat a) = 1 ∧ own_mr (own_mk (own_z n) (Int32.ofNat a)) (Int32.ofNat b) = (if Int32.ofNat b = Int32.ofNat a then 0 else 1) ∧ own_mr (own_split (own_mk (own_mk (own_z n) (Int32.ofNat a)) (Int32.ofNat b))) (Int32.ofNat c) = 1 ∧ own_mr (own_mk (own_split (own_mk (own_mk (own_z n) (Int32.ofNat a)) (Int32.ofNat b))) (Int32.ofNat c)) (Int32.ofNat d) = (if Int32.ofNat d = Int32.ofNat c then 0 else 1) ∧ own_mr (own_mk (own_mk (own_split (own_mk (own_mk (own_z n) (Int32.ofNat a)) (Int32.ofNat b))) (Int32.ofNat c)) (Int32.ofNat d)) (Int32.ofNat c) = 0 ∧ own_tlP n a b c d 1 1 (own_split (own_mk (own_mk (own_mk (own_split (own_mk (own_mk (own_z n) (Int32.ofNat a)) (Int32.ofNat b))) (Int32.ofNat c)) (Int32.ofNat d)) (Int32.ofNat c))) := by
  have k : own_ch11 n a b c d = true := by
    match n, h1, h4 with
    | 1, _, _ => exact List.all_eq_true.1 (List.all_eq_true.1 (List.all_eq_true.1 (List.all_eq_true.1 own_all11_1 a (List.mem_range.2 ha)) b (List.mem_range.2 hb)) c (List.mem_range.2 hc)) d (List.mem_range.2 hd)
    | 2, _, _ => exact List.all_eq_true.1 (List.all_eq_true.1 (List.all_eq_true.1 (List.all_eq_true.1 own_all11_2 a (List.mem_range.2 ha)) b (List.mem_range.2 hb)) c (List.mem_range.2 hc)) d (List.mem_range.2 hd)
    | 3, _, _ => exact List.all_eq_true.1 (List.all_eq_true.1 (List.all_eq_true.1 (List.all_eq_true.1 own_all11_3 a (List.mem_range.2 ha)) b (List.mem_range.2 hb)) c (List.mem_range.2 hc)) d (List.mem_range.2 hd)
    | 4, _, _ => exact List.all_eq_true.1 (List.all_eq_true.1 (List.all_eq_true.1 (List.all_eq_true.1 own_all11_4 a (List.mem_range.2 ha)) b (List.mem_range.2 hb)) c (List.mem_range.2 hc)) d (List.mem_range.2 hd)
  simpa only [own_ch11, own_mpB, own_sbB, own_tlB, Bool.and_eq_true, decide_eq_true_eq, and_assoc] using k
set_option maxRecDepth 65536 in
set_option maxHeartbeats 40000000 in
theorem own_tl {Z : State} {a0 : Array Value} {n0 : Nat} {l : Launch} {G : Nat → Nat → own_Hs → Nat → List Slot → List Value → Prop} (hw : ∀ d ∈ tables_1, d.before a0 Z = true)
    (C : own_Wk Z n0 room_1 x code maxLocals ret l (fun v _ => v = some (.int 1)) G) (o ls r0 r1 r2 r3 r4 r5 r6 : Addr) (p0 p1 p2 p3 p4 fb fd : Int32) (n a b c d : Nat) (s : own_RP) (tl : own_tlP n a b c d fb fd s) : G 9 37 (own_HT o ls r0 r1 r2 r3 r4 r5 r6 s) 216 [.val (.int p0), .val (.int p1), .val (.int p2), .val (.int p3), .val (.int p4), .val (.int (Int32.ofNat n)), .val (.int fb), .val (.int fd), .val (.int (Int32.ofNat a)), .val (.int (Int32.ofNat b)), .val (.int (Int32.ofNat c)), .val (.int (Int32.ofNat d)), .val (.ref o), .val (.ref ls), .val (.int (1 : Int32)), .val (.int (1 : Int32)), .val (.int (1 : Int32)), .val (.int (1 : Int32)), .val (.int (1 : Int32)), .unset, .unset, .unset, .unset, .unset, .unset, .unset, .unset, .unset, .unset, .unset, .unset] [] := by
  refine C.aload (q := 218) at_216 rfl rfl rfl ?_
  refine C.iconst (q := 219) (z := (0 : Int32)) at_218 rfl rfl ?_
  refine C.callV (q := 222) 0 0 [.int (0 : Int32)] [] at_219 (hw _ (List.mem_of_getElem? (i := 46) rfl)) (hw _ (List.mem_of_getElem? (i := 47) rfl)) (hw _ (List.mem_of_getElem? (i := 48) rfl)) (hw _ (List.mem_of_getElem? (i := 49) rfl)) (hw _ (List.mem_of_getElem? (i := 3) rfl)) (hw _ (List.mem_of_getElem? (i := 50) rfl)) (own_c3 l Z a0 n0 hw [] o r0 r1 r2 r3 r4 r5 r6 _ s.1 s.2.1 s.2.2.1 s.2.2.2.1 s.2.2.2.2.1 s.2.2.2.2.2.1 s.2.2.2.2.2.2.1 s.2.2.2.2.2.2.2.1 s.2.2.2.2.2.2.2.2 (0 : Int32) tl.1) (by decide) (by decide) (by decide) own_pd1 rfl rfl rfl rfl (Nat.le_of_eq rfl) (by decide) (by decide) rfl ?_
  rintro _ _ ⟨rfl, hE⟩
  rw [hE]
  show G 9 37 (own_HT o ls r0 r1 r2 r3 r4 r5 r6 s) 222 [.val (.int p0), .val (.int p1), .val (.int p2), .val (.int p3), .val (.int p4), .val (.int (Int32.ofNat n)), .val (.int fb), .val (.int fd), .val (.int (Int32.ofNat a)), .val (.int (Int32.ofNat b)), .val (.int (Int32.ofNat c)), .val (.int (Int32.ofNat d)), .val (.ref o), .val (.ref ls), .val (.int (1 : Int32)), .val (.int (1 : Int32)), .val (.int (1 : Int32)), .val (.int (1 : Int32)), .val (.int (1 : Int32)), .unset, .unset, .unset, .unset, .unset, .unset, .unset, .unset, .unset, .unset, .unset, .unset] [.int (own_g s.2.2.1 (0 : Int32))]
  refine C.istore (q := 224) (ls' := [.val (.int p0), .val (.int p1), .val (.int p2), .val (.int p3), .val (.int p4), .val (.int (Int32.ofNat n)), .val (.int fb), .val (.int fd), .val (.int (Int32.ofNat a)), .val (.int (Int32.ofNat b)), .val (.int (Int32.ofNat c)), .val (.int (Int32.ofNat d)), .val (.ref o), .val (.ref ls), .val (.int (1 : Int32)), .val (.int (1 : Int32)), .val (.int (1 : Int32)), .val (.int (1 : Int32)), .val (.int (1 : Int32)), .val (.int (own_g s.2.2.1 (0 : Int32))), .unset, .unset, .unset, .unset, .unset, .unset, .unset, .unset, .unset, .unset, .unset]) at_222 rfl rfl ?_
  refine C.iload (q := 226) at_224 rfl rfl ?_
  refine C.iconst (q := 227) (z := (1 : Int32)) at_226 rfl rfl ?_
  have J227 : ∀ (k1 : Int32), k1 = (if (1 : Int32) < (Int32.ofNat n) then (own_g s.2.2.1 (1 : Int32)) else (-1 : Int32)) → G 9 37 (own_HT o ls r0 r1 r2 r3 r4 r5 r6 s) 240 [.val (.int p0), .val (.int p1), .val (.int p2), .val (.int p3), .val (.int p4), .val (.int (Int32.ofNat n)), .val (.int fb), .val (.int fd), .val (.int (Int32.ofNat a)), .val (.int (Int32.ofNat b)), .val (.int (Int32.ofNat c)), .val (.int (Int32.ofNat d)), .val (.ref o), .val (.ref ls), .val (.int (1 : Int32)), .val (.int (1 : Int32)), .val (.int (1 : Int32)), .val (.int (1 : Int32)), .val (.int (1 : Int32)), .val (.int (own_g s.2.2.1 (0 : Int32))), .unset, .unset, .unset, .unset, .unset, .unset, .unset, .unset, .unset, .unset, .unset] [.int k1] := by
    intro k1 hk1
    refine C.istore (q := 242) (ls' := [.val (.int p0), .val (.int p1), .val (.int p2), .val (.int p3), .val (.int p4), .val (.int (Int32.ofNat n)), .val (.int fb), .val (.int fd), .val (.int (Int32.ofNat a)), .val (.int (Int32.ofNat b)), .val (.int (Int32.ofNat c)), .val (.int (Int32.ofNat d)), .val (.ref o), .val (.ref ls), .val (.int (1 : Int32)), .val (.int (1 : Int32)), .val (.int (1 : Int32)), .val (.int (1 : Int32)), .val (.int (1 : Int32)), .val (.int (own_g s.2.2.1 (0 : Int32))), .val (.int k1), .unset, .unset, .unset, .unset, .unset, .unset, .unset, .unset, .unset, .unset]) at_240 rfl rfl ?_
    refine C.iload (q := 244) at_242 rfl rfl ?_
    refine C.iconst (q := 245) (z := (2 : Int32)) at_244 rfl rfl ?_
    have J245 : ∀ (k2 : Int32), k2 = (if (2 : Int32) < (Int32.ofNat n) then (own_g s.2.2.1 (2 : Int32)) else (-1 : Int32)) → G 9 37 (own_HT o ls r0 r1 r2 r3 r4 r5 r6 s) 258 [.val (.int p0), .val (.int p1), .val (.int p2), .val (.int p3), .val (.int p4), .val (.int (Int32.ofNat n)), .val (.int fb), .val (.int fd), .val (.int (Int32.ofNat a)), .val (.int (Int32.ofNat b)), .val (.int (Int32.ofNat c)), .val (.int (Int32.ofNat d)), .val (.ref o), .val (.ref ls), .val (.int (1 : Int32)), .val (.int (1 : Int32)), .val (.int (1 : Int32)), .val (.int (1 : Int32)), .val (.int (1 : Int32)), .val (.int (own_g s.2.2.1 (0 : Int32))), .val (.int k1), .unset, .unset, .unset, .unset, .unset, .unset, .unset, .unset, .unset, .unset] [.int k2] := by
      intro k2 hk2
      refine C.istore (q := 260) (ls' := [.val (.int p0), .val (.int p1), .val (.int p2), .val (.int p3), .val (.int p4), .val (.int (Int32.ofNat n)), .val (.int fb), .val (.int fd), .val (.int (Int32.ofNat a)), .val (.int (Int32.ofNat b)), .val (.int (Int32.ofNat c)), .val (.int (Int32.ofNat d)), .val (.ref o), .val (.ref ls), .val (.int (1 : Int32)), .val (.int (1 : Int32)), .val (.int (1 : Int32)), .val (.int (1 : Int32)), .val (.int (1 : Int32)), .val (.int (own_g s.2.2.1 (0 : Int32))), .val (.int k1), .val (.int k2), .unset, .unset, .unset, .unset, .unset, .unset, .unset, .unset, .unset]) at_258 rfl rfl ?_
      refine C.iload (q := 262) at_260 rfl rfl ?_
      refine C.iconst (q := 263) (z := (3 : Int32)) at_262 rfl rfl ?_
      have J263 : ∀ (k3 : Int32), k3 = (if (3 : Int32) < (Int32.ofNat n) then (own_g s.2.2.1 (3 : Int32)) else (-1 : Int32)) → G 9 37 (own_HT o ls r0 r1 r2 r3 r4 r5 r6 s) 276 [.val (.int p0), .val (.int p1), .val (.int p2), .val (.int p3), .val (.int p4), .val (.int (Int32.ofNat n)), .val (.int fb), .val (.int fd), .val (.int (Int32.ofNat a)), .val (.int (Int32.ofNat b)), .val (.int (Int32.ofNat c)), .val (.int (Int32.ofNat d)), .val (.ref o), .val (.ref ls), .val (.int (1 : Int32)), .val (.int (1 : Int32)), .val (.int (1 : Int32)), .val (.int (1 : Int32)), .val (.int (1 : Int32)), .val (.int (own_g s.2.2.1 (0 : Int32))), .val (.int k1), .val (.int k2), .unset, .unset, .unset, .unset, .unset, .unset, .unset, .unset, .unset] [.int k3] := by
        intro k3 hk3
        refine C.istore (q := 278) (ls' := [.val (.int p0), .val (.int p1), .val (.int p2), .val (.int p3), .val (.int p4), .val (.int (Int32.ofNat n)), .val (.int fb), .val (.int fd), .val (.int (Int32.ofNat a)), .val (.int (Int32.ofNat b)), .val (.int (Int32.ofNat c)), .val (.int (Int32.ofNat d)), .val (.ref o), .val (.ref ls), .val (.int (1 : Int32)), .val (.int (1 : Int32)), .val (.int (1 : Int32)), .val (.int (1 : Int32)), .val (.int (1 : Int32)), .val (.int (own_g s.2.2.1 (0 : Int32))), .val (.int k1), .val (.int k2), .val (.int k3), .unset, .unset, .unset, .unset, .unset, .unset, .unset, .unset]) at_276 rfl rfl ?_
        refine C.iconst (q := 279) (z := (0 : Int32)) at_278 rfl rfl ?_
        refine C.iload (q := 281) at_279 rfl rfl ?_
        refine C.iload (q := 283) at_281 rfl rfl ?_
        refine C.iload (q := 285) at_283 rfl rfl ?_
        refine C.iload (q := 287) at_285 rfl rfl ?_
        refine C.iload (q := 289) at_287 rfl rfl ?_
        refine C.iload (q := 291) at_289 rfl rfl ?_
        refine C.callS (q := 294) 0 [.int (0 : Int32), .int (Int32.ofNat a), .int (Int32.ofNat b), .int fb, .int (Int32.ofNat c), .int (Int32.ofNat d), .int fd] [] at_291 (hw _ (List.mem_of_getElem? (i := 51) rfl)) (hw _ (List.mem_of_getElem? (i := 52) rfl)) (hw _ (List.mem_of_getElem? (i := 29) rfl)) (hw _ (List.mem_of_getElem? (i := 53) rfl)) (own_c4 l Z a0 n0 hw [] (0 : Int32) (Int32.ofNat a) (Int32.ofNat b) fb (Int32.ofNat c) (Int32.ofNat d) fd (own_HT o ls r0 r1 r2 r3 r4 r5 r6 s)) (by decide) (by decide) (by decide) own_pd2 rfl rfl rfl (Nat.le_of_eq rfl) (by decide) (by decide) rfl ?_
        rintro _ _ ⟨rfl, hE⟩
        rw [hE]
        show G 9 37 (own_HT o ls r0 r1 r2 r3 r4 r5 r6 s) 294 [.val (.int p0), .val (.int p1), .val (.int p2), .val (.int p3), .val (.int p4), .val (.int (Int32.ofNat n)), .val (.int fb), .val (.int fd), .val (.int (Int32.ofNat a)), .val (.int (Int32.ofNat b)), .val (.int (Int32.ofNat c)), .val (.int (Int32.ofNat d)), .val (.ref o), .val (.ref ls), .val (.int (1 : Int32)), .val (.int (1 : Int32)), .val (.int (1 : Int32)), .val (.int (1 : Int32)), .val (.int (1 : Int32)), .val (.int (own_g s.2.2.1 (0 : Int32))), .val (.int k1), .val (.int k2), .val (.int k3), .unset, .unset, .unset, .unset, .unset, .unset, .unset, .unset] [.int (own_sg (0 : Int32) (Int32.ofNat a) (Int32.ofNat b) fb (Int32.ofNat c) (Int32.ofNat d) fd)]
        refine C.istore (q := 296) (ls' := [.val (.int p0), .val (.int p1), .val (.int p2), .val (.int p3), .val (.int p4), .val (.int (Int32.ofNat n)), .val (.int fb), .val (.int fd), .val (.int (Int32.ofNat a)), .val (.int (Int32.ofNat b)), .val (.int (Int32.ofNat c)), .val (.int (Int32.ofNat d)), .val (.ref o), .val (.ref ls), .val (.int (1 : Int32)), .val (.int (1 : Int32)), .val (.int (1 : Int32)), .val (.int (1 : Int32)), .val (.int (1 : Int32)), .val (.int (own_g s.2.2.1 (0 : Int32))), .val (.int k1), .val (.int k2), .val (.int k3), .val (.int (own_sg (0 : Int32) (Int32.ofNat a) (Int32.ofNat b) fb (Int32.ofNat c) (Int32.ofNat d) fd)), .unset, .unset, .unset, .unset, .unset, .unset, .unset]) at_294 rfl rfl ?_
        generalize hg0 : (own_sg (0 : Int32) (Int32.ofNat a) (Int32.ofNat b) fb (Int32.ofNat c) (Int32.ofNat d) fd) = g0
        refine C.iconst (q := 297) (z := (1 : Int32)) at_296 rfl rfl ?_
        refine C.iload (q := 299) at_297 rfl rfl ?_
        refine C.iload (q := 301) at_299 rfl rfl ?_
        refine C.iload (q := 303) at_301 rfl rfl ?_
        refine C.iload (q := 305) at_303 rfl rfl ?_
        refine C.iload (q := 307) at_305 rfl rfl ?_
        refine C.iload (q := 309) at_307 rfl rfl ?_
        refine C.callS (q := 312) 0 [.int (1 : Int32), .int (Int32.ofNat a), .int (Int32.ofNat b), .int fb, .int (Int32.ofNat c), .int (Int32.ofNat d), .int fd] [] at_309 (hw _ (List.mem_of_getElem? (i := 51) rfl)) (hw _ (List.mem_of_getElem? (i := 52) rfl)) (hw _ (List.mem_of_getElem? (i := 29) rfl)) (hw _ (List.mem_of_getElem? (i := 53) rfl)) (own_c4 l Z a0 n0 hw [] (1 : Int32) (Int32.ofNat a) (Int32.ofNat b) fb (Int32.ofNat c) (Int32.ofNat d) fd (own_HT o ls r0 r1 r2 r3 r4 r5 r6 s)) (by decide) (by decide) (by decide) own_pd2 rfl rfl rfl (Nat.le_of_eq rfl) (by decide) (by decide) rfl ?_
        rintro _ _ ⟨rfl, hE⟩
        rw [hE]
        show G 9 37 (own_HT o ls r0 r1 r2 r3 r4 r5 r6 s) 312 [.val (.int p0), .val (.int p1), .val (.int p2), .val (.int p3), .val (.int p4), .val (.int (Int32.ofNat n)), .val (.int fb), .val (.int fd), .val (.int (Int32.ofNat a)), .val (.int (Int32.ofNat b)), .val (.int (Int32.ofNat c)), .val (.int (Int32.ofNat d)), .val (.ref o), .val (.ref ls), .val (.int (1 : Int32)), .val (.int (1 : Int32)), .val (.int (1 : Int32)), .val (.int (1 : Int32)), .val (.int (1 : Int32)), .val (.int (own_g s.2.2.1 (0 : Int32))), .val (.int k1), .val (.int k2), .val (.int k3), .val (.int g0), .unset, .unset, .unset, .unset, .unset, .unset, .unset] [.int (own_sg (1 : Int32) (Int32.ofNat a) (Int32.ofNat b) fb (Int32.ofNat c) (Int32.ofNat d) fd)]
        refine C.istore (q := 314) (ls' := [.val (.int p0), .val (.int p1), .val (.int p2), .val (.int p3), .val (.int p4), .val (.int (Int32.ofNat n)), .val (.int fb), .val (.int fd), .val (.int (Int32.ofNat a)), .val (.int (Int32.ofNat b)), .val (.int (Int32.ofNat c)), .val (.int (Int32.ofNat d)), .val (.ref o), .val (.ref ls), .val (.int (1 : Int32)), .val (.int (1 : Int32)), .val (.int (1 : Int32)), .val (.int (1 : Int32)), .val (.int (1 : Int32)), .val (.int (own_g s.2.2.1 (0 : Int32))), .val (.int k1), .val (.int k2), .val (.int k3), .val (.int g0), .val (.int (own_sg (1 : Int32) (Int32.ofNat a) (Int32.ofNat b) fb (Int32.ofNat c) (Int32.ofNat d) fd)), .unset, .unset, .unset, .unset, .unset, .unset]) at_312 rfl rfl ?_
        generalize hg1 : (own_sg (1 : Int32) (Int32.ofNat a) (Int32.ofNat b) fb (Int32.ofNat c) (Int32.ofNat d) fd) = g1
        refine C.iconst (q := 315) (z := (2 : Int32)) at_314 rfl rfl ?_
        refine C.iload (q := 317) at_315 rfl rfl ?_
        refine C.iload (q := 319) at_317 rfl rfl ?_
        refine C.iload (q := 321) at_319 rfl rfl ?_
        refine C.iload (q := 323) at_321 rfl rfl ?_
        refine C.iload (q := 325) at_323 rfl rfl ?_
        refine C.iload (q := 327) at_325 rfl rfl ?_
        refine C.callS (q := 330) 0 [.int (2 : Int32), .int (Int32.ofNat a), .int (Int32.ofNat b), .int fb, .int (Int32.ofNat c), .int (Int32.ofNat d), .int fd] [] at_327 (hw _ (List.mem_of_getElem? (i := 51) rfl)) (hw _ (List.mem_of_getElem? (i := 52) rfl)) (hw _ (List.mem_of_getElem? (i := 29) rfl)) (hw _ (List.mem_of_getElem? (i := 53) rfl)) (own_c4 l Z a0 n0 hw [] (2 : Int32) (Int32.ofNat a) (Int32.ofNat b) fb (Int32.ofNat c) (Int32.ofNat d) fd (own_HT o ls r0 r1 r2 r3 r4 r5 r6 s)) (by decide) (by decide) (by decide) own_pd2 rfl rfl rfl (Nat.le_of_eq rfl) (by decide) (by decide) rfl ?_
        rintro _ _ ⟨rfl, hE⟩
        rw [hE]
        show G 9 37 (own_HT o ls r0 r1 r2 r3 r4 r5 r6 s) 330 [.val (.int p0), .val (.int p1), .val (.int p2), .val (.int p3), .val (.int p4), .val (.int (Int32.ofNat n)), .val (.int fb), .val (.int fd), .val (.int (Int32.ofNat a)), .val (.int (Int32.ofNat b)), .val (.int (Int32.ofNat c)), .val (.int (Int32.ofNat d)), .val (.ref o), .val (.ref ls), .val (.int (1 : Int32)), .val (.int (1 : Int32)), .val (.int (1 : Int32)), .val (.int (1 : Int32)), .val (.int (1 : Int32)), .val (.int (own_g s.2.2.1 (0 : Int32))), .val (.int k1), .val (.int k2), .val (.int k3), .val (.int g0), .val (.int g1), .unset, .unset, .unset, .unset, .unset, .unset] [.int (own_sg (2 : Int32) (Int32.ofNat a) (Int32.ofNat b) fb (Int32.ofNat c) (Int32.ofNat d) fd)]
        refine C.istore (q := 332) (ls' := [.val (.int p0), .val (.int p1), .val (.int p2), .val (.int p3), .val (.int p4), .val (.int (Int32.ofNat n)), .val (.int fb), .val (.int fd), .val (.int (Int32.ofNat a)), .val (.int (Int32.ofNat b)), .val (.int (Int32.ofNat c)), .val (.int (Int32.ofNat d)), .val (.ref o), .val (.ref ls), .val (.int (1 : Int32)), .val (.int (1 : Int32)), .val (.int (1 : Int32)), .val (.int (1 : Int32)), .val (.int (1 : Int32)), .val (.int (own_g s.2.2.1 (0 : Int32))), .val (.int k1), .val (.int k2), .val (.int k3), .val (.int g0), .val (.int g1), .val (.int (own_sg (2 : Int32) (Int32.ofNat a) (Int32.ofNat b) fb (Int32.ofNat c) (Int32.ofNat d) fd)), .unset, .unset, .unset, .unset, .unset]) at_330 rfl rfl ?_
        generalize hg2 : (own_sg (2 : Int32) (Int32.ofNat a) (Int32.ofNat b) fb (Int32.ofNat c) (Int32.ofNat d) fd) = g2
        refine C.iconst (q := 333) (z := (3 : Int32)) at_332 rfl rfl ?_
        refine C.iload (q := 335) at_333 rfl rfl ?_
        refine C.iload (q := 337) at_335 rfl rfl ?_
        refine C.iload (q := 339) at_337 rfl rfl ?_
        refine C.iload (q := 341) at_339 rfl rfl ?_
        refine C.iload (q := 343) at_341 rfl rfl ?_
        refine C.iload (q := 345) at_343 rfl rfl ?_
        refine C.callS (q := 348) 0 [.int (3 : Int32), .int (Int32.ofNat a), .int (Int32.ofNat b), .int fb, .int (Int32.ofNat c), .int (Int32.ofNat d), .int fd] [] at_345 (hw _ (List.mem_of_getElem? (i := 51) rfl)) (hw _ (List.mem_of_getElem? (i := 52) rfl)) (hw _ (List.mem_of_getElem? (i := 29) rfl)) (hw _ (List.mem_of_getElem? (i := 53) rfl)) (own_c4 l Z a0 n0 hw [] (3 : Int32) (Int32.ofNat a) (Int32.ofNat b) fb (Int32.ofNat c) (Int32.ofNat d) fd (own_HT o ls r0 r1 r2 r3 r4 r5 r6 s)) (by decide) (by decide) (by decide) own_pd2 rfl rfl rfl (Nat.le_of_eq rfl) (by decide) (by decide) rfl ?_
        rintro _ _ ⟨rfl, hE⟩
        rw [hE]
        show G 9 37 (own_HT o ls r0 r1 r2 r3 r4 r5 r6 s) 348 [.val (.int p0), .val (.int p1), .val (.int p2), .val (.int p3), .val (.int p4), .val (.int (Int32.ofNat n)), .val (.int fb), .val (.int fd), .val (.int (Int32.ofNat a)), .val (.int (Int32.ofNat b)), .val (.int (Int32.ofNat c)), .val (.int (Int32.ofNat d)), .val (.ref o), .val (.ref ls), .val (.int (1 : Int32)), .val (.int (1 : Int32)), .val (.int (1 : Int32)), .val (.int (1 : Int32)), .val (.int (1 : Int32)), .val (.int (own_g s.2.2.1 (0 : Int32))), .val (.int k1), .val (.int k2), .val (.int k3), .val (.int g0), .val (.int g1), .val (.int g2), .unset, .unset, .unset, .unset, .unset] [.int (own_sg (3 : Int32) (Int32.ofNat a) (Int32.ofNat b) fb (Int32.ofNat c) (Int32.ofNat d) fd)]
        refine C.istore (q := 350) (ls' := [.val (.int p0), .val (.int p1), .val (.int p2), .val (.int p3), .val (.int p4), .val (.int (Int32.ofNat n)), .val (.int fb), .val (.int fd), .val (.int (Int32.ofNat a)), .val (.int (Int32.ofNat b)), .val (.int (Int32.ofNat c)), .val (.int (Int32.ofNat d)), .val (.ref o), .val (.ref ls), .val (.int (1 : Int32)), .val (.int (1 : Int32)), .val (.int (1 : Int32)), .val (.int (1 : Int32)), .val (.int (1 : Int32)), .val (.int (own_g s.2.2.1 (0 : Int32))), .val (.int k1), .val (.int k2), .val (.int k3), .val (.int g0), .val (.int g1), .val (.int g2), .val (.int (own_sg (3 : Int32) (Int32.ofNat a) (Int32.ofNat b) fb (Int32.ofNat c) (Int32.ofNat d) fd)), .unset, .unset, .unset, .unset]) at_348 rfl rfl ?_
        generalize hg3 : (own_sg (3 : Int32) (Int32.ofNat a) (Int32.ofNat b) fb (Int32.ofNat c) (Int32.ofNat d) fd) = g3
        refine C.iload (q := 352) at_350 rfl rfl ?_
        refine C.iload (q := 354) at_352 rfl rfl ?_
        refine C.iload (q := 356) at_354 rfl rfl ?_
        refine C.iload (q := 358) at_356 rfl rfl ?_
        refine C.iload (q := 360) at_358 rfl rfl ?_
        refine C.iconst (q := 361) (z := (1 : Int32)) at_360 rfl rfl ?_
        have J361 : ∀ (q1 : Int32), q1 = (if (1 : Int32) < (Int32.ofNat n) then (1 : Int32) else (0 : Int32)) → G 9 37 (own_HT o ls r0 r1 r2 r3 r4 r5 r6 s) 369 [.val (.int p0), .val (.int p1), .val (.int p2), .val (.int p3), .val (.int p4), .val (.int (Int32.ofNat n)), .val (.int fb), .val (.int fd), .val (.int (Int32.ofNat a)), .val (.int (Int32.ofNat b)), .val (.int (Int32.ofNat c)), .val (.int (Int32.ofNat d)), .val (.ref o), .val (.ref ls), .val (.int (1 : Int32)), .val (.int (1 : Int32)), .val (.int (1 : Int32)), .val (.int (1 : Int32)), .val (.int (1 : Int32)), .val (.int (own_g s.2.2.1 (0 : Int32))), .val (.int k1), .val (.int k2), .val (.int k3), .val (.int g0), .val (.int g1), .val (.int g2), .val (.int g3), .unset, .unset, .unset, .unset] [.int q1, .int g1, .int g0, .int k1, .int (own_g s.2.2.1 (0 : Int32))] := by
          intro q1 hq1
          refine C.callS (q := 372) 0 [.int (own_g s.2.2.1 (0 : Int32)), .int k1, .int g0, .int g1, .int q1] [] at_369 (hw _ (List.mem_of_getElem? (i := 54) rfl)) (hw _ (List.mem_of_getElem? (i := 55) rfl)) (hw _ (List.mem_of_getElem? (i := 29) rfl)) (hw _ (List.mem_of_getElem? (i := 56) rfl)) (own_c5 l Z a0 n0 hw [] (own_g s.2.2.1 (0 : Int32)) k1 g0 g1 q1 (own_HT o ls r0 r1 r2 r3 r4 r5 r6 s)) (by decide) (by decide) (by decide) own_pd3 rfl rfl rfl (Nat.le_of_eq rfl) (by decide) (by decide) rfl ?_
          rintro _ _ ⟨rfl, hE⟩
          rw [hE]
          show G 9 37 (own_HT o ls r0 r1 r2 r3 r4 r5 r6 s) 372 [.val (.int p0), .val (.int p1), .val (.int p2), .val (.int p3), .val (.int p4), .val (.int (Int32.ofNat n)), .val (.int fb), .val (.int fd), .val (.int (Int32.ofNat a)), .val (.int (Int32.ofNat b)), .val (.int (Int32.ofNat c)), .val (.int (Int32.ofNat d)), .val (.ref o), .val (.ref ls), .val (.int (1 : Int32)), .val (.int (1 : Int32)), .val (.int (1 : Int32)), .val (.int (1 : Int32)), .val (.int (1 : Int32)), .val (.int (own_g s.2.2.1 (0 : Int32))), .val (.int k1), .val (.int k2), .val (.int k3), .val (.int g0), .val (.int g1), .val (.int g2), .val (.int g3), .unset, .unset, .unset, .unset] [.int (own_ag (own_g s.2.2.1 (0 : Int32)) k1 g0 g1 q1)]
          refine C.ifEq (q := 504) (q' := 375) at_372 (by decide) (by decide) rfl (fun h372 => absurd h372 (by rw [hk1, hq1, ← hg0, ← hg1, tl.2.2.2.2.1]; decide)) (fun h372 => ?_)
          refine C.iload (q := 377) at_375 rfl rfl ?_
          refine C.iload (q := 379) at_377 rfl rfl ?_
          refine C.iload (q := 381) at_379 rfl rfl ?_
          refine C.iload (q := 383) at_381 rfl rfl ?_
          refine C.iload (q := 385) at_383 rfl rfl ?_
          refine C.iconst (q := 386) (z := (2 : Int32)) at_385 rfl rfl ?_
          have J386 : ∀ (q2 : Int32), q2 = (if (2 : Int32) < (Int32.ofNat n) then (1 : Int32) else (0 : Int32)) → G 9 37 (own_HT o ls r0 r1 r2 r3 r4 r5 r6 s) 394 [.val (.int p0), .val (.int p1), .val (.int p2), .val (.int p3), .val (.int p4), .val (.int (Int32.ofNat n)), .val (.int fb), .val (.int fd), .val (.int (Int32.ofNat a)), .val (.int (Int32.ofNat b)), .val (.int (Int32.ofNat c)), .val (.int (Int32.ofNat d)), .val (.ref o), .val (.ref ls), .val (.int (1 : Int32)), .val (.int (1 : Int32)), .val (.int (1 : Int32)), .val (.int (1 : Int32)), .val (.int (1 : Int32)), .val (.int (own_g s.2.2.1 (0 : Int32))), .val (.int k1), .val (.int k2), .val (.int k3), .val (.int g0), .val (.int g1), .val (.int g2), .val (.int g3), .unset, .unset, .unset, .unset] [.int q2, .int g2, .int g0, .int k2, .int (own_g s.2.2.1 (0 : Int32))] := by
            intro q2 hq2
            refine C.callS (q := 397) 0 [.int (own_g s.2.2.1 (0 : Int32)), .int k2, .int g0, .int g2, .int q2] [] at_394 (hw _ (List.mem_of_getElem? (i := 54) rfl)) (hw _ (List.mem_of_getElem? (i := 55) rfl)) (hw _ (List.mem_of_getElem? (i := 29) rfl)) (hw _ (List.mem_of_getElem? (i := 56) rfl)) (own_c5 l Z a0 n0 hw [] (own_g s.2.2.1 (0 : Int32)) k2 g0 g2 q2 (own_HT o ls r0 r1 r2 r3 r4 r5 r6 s)) (by decide) (by decide) (by decide) own_pd3 rfl rfl rfl (Nat.le_of_eq rfl) (by decide) (by decide) rfl ?_
            rintro _ _ ⟨rfl, hE⟩
            rw [hE]
            show G 9 37 (own_HT o ls r0 r1 r2 r3 r4 r5 r6 s) 397 [.val (.int p0), .val (.int p1), .val (.int p2), .val (.int p3), .val (.int p4), .val (.int (Int32.ofNat n)), .val (.int fb), .val (.int fd), .val (.int (Int32.ofNat a)), .val (.int (Int32.ofNat b)), .val (.int (Int32.ofNat c)), .val (.int (Int32.ofNat d)), .val (.ref o), .val (.ref ls), .val (.int (1 : Int32)), .val (.int (1 : Int32)), .val (.int (1 : Int32)), .val (.int (1 : Int32)), .val (.int (1 : Int32)), .val (.int (own_g s.2.2.1 (0 : Int32))), .val (.int k1), .val (.int k2), .val (.int k3), .val (.int g0), .val (.int g1), .val (.int g2), .val (.int g3), .unset, .unset, .unset, .unset] [.int (own_ag (own_g s.2.2.1 (0 : Int32)) k2 g0 g2 q2)]
            refine C.ifEq (q := 504) (q' := 400) at_397 (by decide) (by decide) rfl (fun h397 => absurd h397 (by rw [hk2, hq2, ← hg0, ← hg2, tl.2.2.2.2.2.1]; decide)) (fun h397 => ?_)
            refine C.iload (q := 402) at_400 rfl rfl ?_
            refine C.iload (q := 404) at_402 rfl rfl ?_
            refine C.iload (q := 406) at_404 rfl rfl ?_
            refine C.iload (q := 408) at_406 rfl rfl ?_
            refine C.iload (q := 410) at_408 rfl rfl ?_
            refine C.iconst (q := 411) (z := (2 : Int32)) at_410 rfl rfl ?_
            have J411 : ∀ (q3 : Int32), q3 = (if (2 : Int32) < (Int32.ofNat n) then (1 : Int32) else (0 : Int32)) → G 9 37 (own_HT o ls r0 r1 r2 r3 r4 r5 r6 s) 419 [.val (.int p0), .val (.int p1), .val (.int p2), .val (.int p3), .val (.int p4), .val (.int (Int32.ofNat n)), .val (.int fb), .val (.int fd), .val (.int (Int32.ofNat a)), .val (.int (Int32.ofNat b)), .val (.int (Int32.ofNat c)), .val (.int (Int32.ofNat d)), .val (.ref o), .val (.ref ls), .val (.int (1 : Int32)), .val (.int (1 : Int32)), .val (.int (1 : Int32)), .val (.int (1 : Int32)), .val (.int (1 : Int32)), .val (.int (own_g s.2.2.1 (0 : Int32))), .val (.int k1), .val (.int k2), .val (.int k3), .val (.int g0), .val (.int g1), .val (.int g2), .val (.int g3), .unset, .unset, .unset, .unset] [.int q3, .int g2, .int g1, .int k2, .int k1] := by
              intro q3 hq3
              refine C.callS (q := 422) 0 [.int k1, .int k2, .int g1, .int g2, .int q3] [] at_419 (hw _ (List.mem_of_getElem? (i := 54) rfl)) (hw _ (List.mem_of_getElem? (i := 55) rfl)) (hw _ (List.mem_of_getElem? (i := 29) rfl)) (hw _ (List.mem_of_getElem? (i := 56) rfl)) (own_c5 l Z a0 n0 hw [] k1 k2 g1 g2 q3 (own_HT o ls r0 r1 r2 r3 r4 r5 r6 s)) (by decide) (by decide) (by decide) own_pd3 rfl rfl rfl (Nat.le_of_eq rfl) (by decide) (by decide) rfl ?_
              rintro _ _ ⟨rfl, hE⟩
              rw [hE]
              show G 9 37 (own_HT o ls r0 r1 r2 r3 r4 r5 r6 s) 422 [.val (.int p0), .val (.int p1), .val (.int p2), .val (.int p3), .val (.int p4), .val (.int (Int32.ofNat n)), .val (.int fb), .val (.int fd), .val (.int (Int32.ofNat a)), .val (.int (Int32.ofNat b)), .val (.int (Int32.ofNat c)), .val (.int (Int32.ofNat d)), .val (.ref o), .val (.ref ls), .val (.int (1 : Int32)), .val (.int (1 : Int32)), .val (.int (1 : Int32)), .val (.int (1 : Int32)), .val (.int (1 : Int32)), .val (.int (own_g s.2.2.1 (0 : Int32))), .val (.int k1), .val (.int k2), .val (.int k3), .val (.int g0), .val (.int g1), .val (.int g2), .val (.int g3), .unset, .unset, .unset, .unset] [.int (own_ag k1 k2 g1 g2 q3)]
              refine C.ifEq (q := 504) (q' := 425) at_422 (by decide) (by decide) rfl (fun h422 => absurd h422 (by rw [hk1, hk2, hq3, ← hg1, ← hg2, tl.2.2.2.2.2.2.1]; decide)) (fun h422 => ?_)
              refine C.iload (q := 427) at_425 rfl rfl ?_
              refine C.iload (q := 429) at_427 rfl rfl ?_
              refine C.iload (q := 431) at_429 rfl rfl ?_
              refine C.iload (q := 433) at_431 rfl rfl ?_
              refine C.iload (q := 435) at_433 rfl rfl ?_
              refine C.iconst (q := 436) (z := (3 : Int32)) at_435 rfl rfl ?_
              have J436 : ∀ (q4 : Int32), q4 = (if (3 : Int32) < (Int32.ofNat n) then (1 : Int32) else (0 : Int32)) → G 9 37 (own_HT o ls r0 r1 r2 r3 r4 r5 r6 s) 444 [.val (.int p0), .val (.int p1), .val (.int p2), .val (.int p3), .val (.int p4), .val (.int (Int32.ofNat n)), .val (.int fb), .val (.int fd), .val (.int (Int32.ofNat a)), .val (.int (Int32.ofNat b)), .val (.int (Int32.ofNat c)), .val (.int (Int32.ofNat d)), .val (.ref o), .val (.ref ls), .val (.int (1 : Int32)), .val (.int (1 : Int32)), .val (.int (1 : Int32)), .val (.int (1 : Int32)), .val (.int (1 : Int32)), .val (.int (own_g s.2.2.1 (0 : Int32))), .val (.int k1), .val (.int k2), .val (.int k3), .val (.int g0), .val (.int g1), .val (.int g2), .val (.int g3), .unset, .unset, .unset, .unset] [.int q4, .int g3, .int g0, .int k3, .int (own_g s.2.2.1 (0 : Int32))] := by
                intro q4 hq4
                refine C.callS (q := 447) 0 [.int (own_g s.2.2.1 (0 : Int32)), .int k3, .int g0, .int g3, .int q4] [] at_444 (hw _ (List.mem_of_getElem? (i := 54) rfl)) (hw _ (List.mem_of_getElem? (i := 55) rfl)) (hw _ (List.mem_of_getElem? (i := 29) rfl)) (hw _ (List.mem_of_getElem? (i := 56) rfl)) (own_c5 l Z a0 n0 hw [] (own_g s.2.2.1 (0 : Int32)) k3 g0 g3 q4 (own_HT o ls r0 r1 r2 r3 r4 r5 r6 s)) (by decide) (by decide) (by decide) own_pd3 rfl rfl rfl (Nat.le_of_eq rfl) (by decide) (by decide) rfl ?_
                rintro _ _ ⟨rfl, hE⟩
                rw [hE]
                show G 9 37 (own_HT o ls r0 r1 r2 r3 r4 r5 r6 s) 447 [.val (.int p0), .val (.int p1), .val (.int p2), .val (.int p3), .val (.int p4), .val (.int (Int32.ofNat n)), .val (.int fb), .val (.int fd), .val (.int (Int32.ofNat a)), .val (.int (Int32.ofNat b)), .val (.int (Int32.ofNat c)), .val (.int (Int32.ofNat d)), .val (.ref o), .val (.ref ls), .val (.int (1 : Int32)), .val (.int (1 : Int32)), .val (.int (1 : Int32)), .val (.int (1 : Int32)), .val (.int (1 : Int32)), .val (.int (own_g s.2.2.1 (0 : Int32))), .val (.int k1), .val (.int k2), .val (.int k3), .val (.int g0), .val (.int g1), .val (.int g2), .val (.int g3), .unset, .unset, .unset, .unset] [.int (own_ag (own_g s.2.2.1 (0 : Int32)) k3 g0 g3 q4)]
                refine C.ifEq (q := 504) (q' := 450) at_447 (by decide) (by decide) rfl (fun h447 => absurd h447 (by rw [hk3, hq4, ← hg0, ← hg3, tl.2.2.2.2.2.2.2.1]; decide)) (fun h447 => ?_)
                refine C.iload (q := 452) at_450 rfl rfl ?_
                refine C.iload (q := 454) at_452 rfl rfl ?_
                refine C.iload (q := 456) at_454 rfl rfl ?_
                refine C.iload (q := 458) at_456 rfl rfl ?_
                refine C.iload (q := 460) at_458 rfl rfl ?_
                refine C.iconst (q := 461) (z := (3 : Int32)) at_460 rfl rfl ?_
                have J461 : ∀ (q5 : Int32), q5 = (if (3 : Int32) < (Int32.ofNat n) then (1 : Int32) else (0 : Int32)) → G 9 37 (own_HT o ls r0 r1 r2 r3 r4 r5 r6 s) 469 [.val (.int p0), .val (.int p1), .val (.int p2), .val (.int p3), .val (.int p4), .val (.int (Int32.ofNat n)), .val (.int fb), .val (.int fd), .val (.int (Int32.ofNat a)), .val (.int (Int32.ofNat b)), .val (.int (Int32.ofNat c)), .val (.int (Int32.ofNat d)), .val (.ref o), .val (.ref ls), .val (.int (1 : Int32)), .val (.int (1 : Int32)), .val (.int (1 : Int32)), .val (.int (1 : Int32)), .val (.int (1 : Int32)), .val (.int (own_g s.2.2.1 (0 : Int32))), .val (.int k1), .val (.int k2), .val (.int k3), .val (.int g0), .val (.int g1), .val (.int g2), .val (.int g3), .unset, .unset, .unset, .unset] [.int q5, .int g3, .int g1, .int k3, .int k1] := by
                  intro q5 hq5
                  refine C.callS (q := 472) 0 [.int k1, .int k3, .int g1, .int g3, .int q5] [] at_469 (hw _ (List.mem_of_getElem? (i := 54) rfl)) (hw _ (List.mem_of_getElem? (i := 55) rfl)) (hw _ (List.mem_of_getElem? (i := 29) rfl)) (hw _ (List.mem_of_getElem? (i := 56) rfl)) (own_c5 l Z a0 n0 hw [] k1 k3 g1 g3 q5 (own_HT o ls r0 r1 r2 r3 r4 r5 r6 s)) (by decide) (by decide) (by decide) own_pd3 rfl rfl rfl (Nat.le_of_eq rfl) (by decide) (by decide) rfl ?_
                  rintro _ _ ⟨rfl, hE⟩
                  rw [hE]
                  show G 9 37 (own_HT o ls r0 r1 r2 r3 r4 r5 r6 s) 472 [.val (.int p0), .val (.int p1), .val (.int p2), .val (.int p3), .val (.int p4), .val (.int (Int32.ofNat n)), .val (.int fb), .val (.int fd), .val (.int (Int32.ofNat a)), .val (.int (Int32.ofNat b)), .val (.int (Int32.ofNat c)), .val (.int (Int32.ofNat d)), .val (.ref o), .val (.ref ls), .val (.int (1 : Int32)), .val (.int (1 : Int32)), .val (.int (1 : Int32)), .val (.int (1 : Int32)), .val (.int (1 : Int32)), .val (.int (own_g s.2.2.1 (0 : Int32))), .val (.int k1), .val (.int k2), .val (.int k3), .val (.int g0), .val (.int g1), .val (.int g2), .val (.int g3), .unset, .unset, .unset, .unset] [.int (own_ag k1 k3 g1 g3 q5)]
                  refine C.ifEq (q := 504) (q' := 475) at_472 (by decide) (by decide) rfl (fun h472 => absurd h472 (by rw [hk1, hk3, hq5, ← hg1, ← hg3, tl.2.2.2.2.2.2.2.2.1]; decide)) (fun h472 => ?_)
                  refine C.iload (q := 477) at_475 rfl rfl ?_
                  refine C.iload (q := 479) at_477 rfl rfl ?_
                  refine C.iload (q := 481) at_479 rfl rfl ?_
                  refine C.iload (q := 483) at_481 rfl rfl ?_
                  refine C.iload (q := 485) at_483 rfl rfl ?_
                  refine C.iconst (q := 486) (z := (3 : Int32)) at_485 rfl rfl ?_
                  have J486 : ∀ (q6 : Int32), q6 = (if (3 : Int32) < (Int32.ofNat n) then (1 : Int32) else (0 : Int32)) → G 9 37 (own_HT o ls r0 r1 r2 r3 r4 r5 r6 s) 494 [.val (.int p0), .val (.int p1), .val (.int p2), .val (.int p3), .val (.int p4), .val (.int (Int32.ofNat n)), .val (.int fb), .val (.int fd), .val (.int (Int32.ofNat a)), .val (.int (Int32.ofNat b)), .val (.int (Int32.ofNat c)), .val (.int (Int32.ofNat d)), .val (.ref o), .val (.ref ls), .val (.int (1 : Int32)), .val (.int (1 : Int32)), .val (.int (1 : Int32)), .val (.int (1 : Int32)), .val (.int (1 : Int32)), .val (.int (own_g s.2.2.1 (0 : Int32))), .val (.int k1), .val (.int k2), .val (.int k3), .val (.int g0), .val (.int g1), .val (.int g2), .val (.int g3), .unset, .unset, .unset, .unset] [.int q6, .int g3, .int g2, .int k3, .int k2] := by
                    intro q6 hq6
                    refine C.callS (q := 497) 0 [.int k2, .int k3, .int g2, .int g3, .int q6] [] at_494 (hw _ (List.mem_of_getElem? (i := 54) rfl)) (hw _ (List.mem_of_getElem? (i := 55) rfl)) (hw _ (List.mem_of_getElem? (i := 29) rfl)) (hw _ (List.mem_of_getElem? (i := 56) rfl)) (own_c5 l Z a0 n0 hw [] k2 k3 g2 g3 q6 (own_HT o ls r0 r1 r2 r3 r4 r5 r6 s)) (by decide) (by decide) (by decide) own_pd3 rfl rfl rfl (Nat.le_of_eq rfl) (by decide) (by decide) rfl ?_
                    rintro _ _ ⟨rfl, hE⟩
                    rw [hE]
                    show G 9 37 (own_HT o ls r0 r1 r2 r3 r4 r5 r6 s) 497 [.val (.int p0), .val (.int p1), .val (.int p2), .val (.int p3), .val (.int p4), .val (.int (Int32.ofNat n)), .val (.int fb), .val (.int fd), .val (.int (Int32.ofNat a)), .val (.int (Int32.ofNat b)), .val (.int (Int32.ofNat c)), .val (.int (Int32.ofNat d)), .val (.ref o), .val (.ref ls), .val (.int (1 : Int32)), .val (.int (1 : Int32)), .val (.int (1 : Int32)), .val (.int (1 : Int32)), .val (.int (1 : Int32)), .val (.int (own_g s.2.2.1 (0 : Int32))), .val (.int k1), .val (.int k2), .val (.int k3), .val (.int g0), .val (.int g1), .val (.int g2), .val (.int g3), .unset, .unset, .unset, .unset] [.int (own_ag k2 k3 g2 g3 q6)]
                    refine C.ifEq (q := 504) (q' := 500) at_497 (by decide) (by decide) rfl (fun h497 => absurd h497 (by rw [hk2, hk3, hq6, ← hg2, ← hg3, tl.2.2.2.2.2.2.2.2.2.1]; decide)) (fun h497 => ?_)
                    refine C.iconst (q := 501) (z := (1 : Int32)) at_500 rfl rfl ?_
                    refine C.goto (q := 505) at_501 (by decide) (by decide) ?_
                    refine C.istore (q := 507) (ls' := [.val (.int p0), .val (.int p1), .val (.int p2), .val (.int p3), .val (.int p4), .val (.int (Int32.ofNat n)), .val (.int fb), .val (.int fd), .val (.int (Int32.ofNat a)), .val (.int (Int32.ofNat b)), .val (.int (Int32.ofNat c)), .val (.int (Int32.ofNat d)), .val (.ref o), .val (.ref ls), .val (.int (1 : Int32)), .val (.int (1 : Int32)), .val (.int (1 : Int32)), .val (.int (1 : Int32)), .val (.int (1 : Int32)), .val (.int (own_g s.2.2.1 (0 : Int32))), .val (.int k1), .val (.int k2), .val (.int k3), .val (.int g0), .val (.int g1), .val (.int g2), .val (.int g3), .val (.int (1 : Int32)), .unset, .unset, .unset]) at_505 rfl rfl ?_
                    refine C.iconst (q := 508) (z := (1 : Int32)) at_507 rfl rfl ?_
                    refine C.iload (q := 510) at_508 rfl rfl ?_
                    refine C.ishl (q := 511) at_510 rfl ?_
                    refine C.iload (q := 513) at_511 rfl rfl ?_
                    refine C.iconst (q := 514) (z := (1 : Int32)) at_513 rfl rfl ?_
                    have J514 : ∀ (m1 : Int32), m1 = (if (1 : Int32) < (Int32.ofNat n) then ((1 : Int32) <<< (g1 &&& 31)) else (0 : Int32)) → G 9 37 (own_HT o ls r0 r1 r2 r3 r4 r5 r6 s) 525 [.val (.int p0), .val (.int p1), .val (.int p2), .val (.int p3), .val (.int p4), .val (.int (Int32.ofNat n)), .val (.int fb), .val (.int fd), .val (.int (Int32.ofNat a)), .val (.int (Int32.ofNat b)), .val (.int (Int32.ofNat c)), .val (.int (Int32.ofNat d)), .val (.ref o), .val (.ref ls), .val (.int (1 : Int32)), .val (.int (1 : Int32)), .val (.int (1 : Int32)), .val (.int (1 : Int32)), .val (.int (1 : Int32)), .val (.int (own_g s.2.2.1 (0 : Int32))), .val (.int k1), .val (.int k2), .val (.int k3), .val (.int g0), .val (.int g1), .val (.int g2), .val (.int g3), .val (.int (1 : Int32)), .unset, .unset, .unset] [.int m1, .int ((1 : Int32) <<< (g0 &&& 31))] := by
                      intro m1 hm1
                      refine C.ior (q := 526) at_525 rfl ?_
                      refine C.iload (q := 528) at_526 rfl rfl ?_
                      refine C.iconst (q := 529) (z := (2 : Int32)) at_528 rfl rfl ?_
                      have J529 : ∀ (m2 : Int32), m2 = (if (2 : Int32) < (Int32.ofNat n) then ((1 : Int32) <<< (g2 &&& 31)) else (0 : Int32)) → G 9 37 (own_HT o ls r0 r1 r2 r3 r4 r5 r6 s) 540 [.val (.int p0), .val (.int p1), .val (.int p2), .val (.int p3), .val (.int p4), .val (.int (Int32.ofNat n)), .val (.int fb), .val (.int fd), .val (.int (Int32.ofNat a)), .val (.int (Int32.ofNat b)), .val (.int (Int32.ofNat c)), .val (.int (Int32.ofNat d)), .val (.ref o), .val (.ref ls), .val (.int (1 : Int32)), .val (.int (1 : Int32)), .val (.int (1 : Int32)), .val (.int (1 : Int32)), .val (.int (1 : Int32)), .val (.int (own_g s.2.2.1 (0 : Int32))), .val (.int k1), .val (.int k2), .val (.int k3), .val (.int g0), .val (.int g1), .val (.int g2), .val (.int g3), .val (.int (1 : Int32)), .unset, .unset, .unset] [.int m2, .int (((1 : Int32) <<< (g0 &&& 31)) ||| m1)] := by
                        intro m2 hm2
                        refine C.ior (q := 541) at_540 rfl ?_
                        refine C.iload (q := 543) at_541 rfl rfl ?_
                        refine C.iconst (q := 544) (z := (3 : Int32)) at_543 rfl rfl ?_
                        have J544 : ∀ (m3 : Int32), m3 = (if (3 : Int32) < (Int32.ofNat n) then ((1 : Int32) <<< (g3 &&& 31)) else (0 : Int32)) → G 9 37 (own_HT o ls r0 r1 r2 r3 r4 r5 r6 s) 555 [.val (.int p0), .val (.int p1), .val (.int p2), .val (.int p3), .val (.int p4), .val (.int (Int32.ofNat n)), .val (.int fb), .val (.int fd), .val (.int (Int32.ofNat a)), .val (.int (Int32.ofNat b)), .val (.int (Int32.ofNat c)), .val (.int (Int32.ofNat d)), .val (.ref o), .val (.ref ls), .val (.int (1 : Int32)), .val (.int (1 : Int32)), .val (.int (1 : Int32)), .val (.int (1 : Int32)), .val (.int (1 : Int32)), .val (.int (own_g s.2.2.1 (0 : Int32))), .val (.int k1), .val (.int k2), .val (.int k3), .val (.int g0), .val (.int g1), .val (.int g2), .val (.int g3), .val (.int (1 : Int32)), .unset, .unset, .unset] [.int m3, .int ((((1 : Int32) <<< (g0 &&& 31)) ||| m1) ||| m2)] := by
                          intro m3 hm3
                          refine C.ior (q := 556) at_555 rfl ?_
                          refine C.istore (q := 558) (ls' := [.val (.int p0), .val (.int p1), .val (.int p2), .val (.int p3), .val (.int p4), .val (.int (Int32.ofNat n)), .val (.int fb), .val (.int fd), .val (.int (Int32.ofNat a)), .val (.int (Int32.ofNat b)), .val (.int (Int32.ofNat c)), .val (.int (Int32.ofNat d)), .val (.ref o), .val (.ref ls), .val (.int (1 : Int32)), .val (.int (1 : Int32)), .val (.int (1 : Int32)), .val (.int (1 : Int32)), .val (.int (1 : Int32)), .val (.int (own_g s.2.2.1 (0 : Int32))), .val (.int k1), .val (.int k2), .val (.int k3), .val (.int g0), .val (.int g1), .val (.int g2), .val (.int g3), .val (.int (1 : Int32)), .val (.int (((((1 : Int32) <<< (g0 &&& 31)) ||| m1) ||| m2) ||| m3)), .unset, .unset]) at_556 rfl rfl ?_
                          generalize hmk : (((((1 : Int32) <<< (g0 &&& 31)) ||| m1) ||| m2) ||| m3) = mk
                          refine C.iload (q := 560) at_558 rfl rfl ?_
                          refine C.iconst (q := 561) (z := (1 : Int32)) at_560 rfl rfl ?_
                          refine C.iand (q := 562) at_561 rfl ?_
                          refine C.iload (q := 564) at_562 rfl rfl ?_
                          refine C.iconst (q := 565) (z := (1 : Int32)) at_564 rfl rfl ?_
                          refine C.ishr (q := 566) at_565 rfl ?_
                          refine C.iconst (q := 567) (z := (1 : Int32)) at_566 rfl rfl ?_
                          refine C.iand (q := 568) at_567 rfl ?_
                          refine C.iadd (q := 569) at_568 rfl ?_
                          refine C.iload (q := 571) at_569 rfl rfl ?_
                          refine C.iconst (q := 572) (z := (2 : Int32)) at_571 rfl rfl ?_
                          refine C.ishr (q := 573) at_572 rfl ?_
                          refine C.iconst (q := 574) (z := (1 : Int32)) at_573 rfl rfl ?_
                          refine C.iand (q := 575) at_574 rfl ?_
                          refine C.iadd (q := 576) at_575 rfl ?_
                          refine C.iload (q := 578) at_576 rfl rfl ?_
                          refine C.iconst (q := 579) (z := (3 : Int32)) at_578 rfl rfl ?_
                          refine C.ishr (q := 580) at_579 rfl ?_
                          refine C.iconst (q := 581) (z := (1 : Int32)) at_580 rfl rfl ?_
                          refine C.iand (q := 582) at_581 rfl ?_
                          refine C.iadd (q := 583) at_582 rfl ?_
                          refine C.istore (q := 585) (ls' := [.val (.int p0), .val (.int p1), .val (.int p2), .val (.int p3), .val (.int p4), .val (.int (Int32.ofNat n)), .val (.int fb), .val (.int fd), .val (.int (Int32.ofNat a)), .val (.int (Int32.ofNat b)), .val (.int (Int32.ofNat c)), .val (.int (Int32.ofNat d)), .val (.ref o), .val (.ref ls), .val (.int (1 : Int32)), .val (.int (1 : Int32)), .val (.int (1 : Int32)), .val (.int (1 : Int32)), .val (.int (1 : Int32)), .val (.int (own_g s.2.2.1 (0 : Int32))), .val (.int k1), .val (.int k2), .val (.int k3), .val (.int g0), .val (.int g1), .val (.int g2), .val (.int g3), .val (.int (1 : Int32)), .val (.int mk), .val (.int ((((mk &&& (1 : Int32)) + ((mk >>> ((1 : Int32) &&& 31)) &&& (1 : Int32))) + ((mk >>> ((2 : Int32) &&& 31)) &&& (1 : Int32))) + ((mk >>> ((3 : Int32) &&& 31)) &&& (1 : Int32)))), .unset]) at_583 rfl rfl ?_
                          refine C.aload (q := 587) at_585 rfl rfl rfl ?_
                          refine C.callV (q := 590) 0 0 [] [] at_587 (hw _ (List.mem_of_getElem? (i := 57) rfl)) (hw _ (List.mem_of_getElem? (i := 58) rfl)) (hw _ (List.mem_of_getElem? (i := 59) rfl)) (hw _ (List.mem_of_getElem? (i := 60) rfl)) (hw _ (List.mem_of_getElem? (i := 3) rfl)) (hw _ (List.mem_of_getElem? (i := 61) rfl)) (own_c2 l Z a0 n0 hw [] o r0 r1 r2 r3 r4 r5 r6 _ s.1 s.2.1 s.2.2.1 s.2.2.2.1 s.2.2.2.2.1 s.2.2.2.2.2.1 s.2.2.2.2.2.2.1 s.2.2.2.2.2.2.2.1 s.2.2.2.2.2.2.2.2) (by decide) (by decide) (by decide) own_pd4 rfl rfl rfl rfl (Nat.le_of_eq rfl) (by decide) (by decide) rfl ?_
                          rintro _ _ ⟨rfl, hE⟩
                          rw [hE]
                          show G 9 37 (own_HT o ls r0 r1 r2 r3 r4 r5 r6 s) 590 [.val (.int p0), .val (.int p1), .val (.int p2), .val (.int p3), .val (.int p4), .val (.int (Int32.ofNat n)), .val (.int fb), .val (.int fd), .val (.int (Int32.ofNat a)), .val (.int (Int32.ofNat b)), .val (.int (Int32.ofNat c)), .val (.int (Int32.ofNat d)), .val (.ref o), .val (.ref ls), .val (.int (1 : Int32)), .val (.int (1 : Int32)), .val (.int (1 : Int32)), .val (.int (1 : Int32)), .val (.int (1 : Int32)), .val (.int (own_g s.2.2.1 (0 : Int32))), .val (.int k1), .val (.int k2), .val (.int k3), .val (.int g0), .val (.int g1), .val (.int g2), .val (.int g3), .val (.int (1 : Int32)), .val (.int mk), .val (.int ((((mk &&& (1 : Int32)) + ((mk >>> ((1 : Int32) &&& 31)) &&& (1 : Int32))) + ((mk >>> ((2 : Int32) &&& 31)) &&& (1 : Int32))) + ((mk >>> ((3 : Int32) &&& 31)) &&& (1 : Int32)))), .unset] [.int s.2.2.2.2.2.2.2.2]
                          refine C.iload (q := 592) at_590 rfl rfl ?_
                          refine C.icmpNe (q := 599) (q' := 595) at_592 (by decide) (by decide) rfl (fun h592 => ?_) (fun h592 => absurd (by rw [← hmk, hm1, hm2, hm3, ← hg0, ← hg1, ← hg2, ← hg3]; exact tl.2.2.2.2.2.2.2.2.2.2) h592)
                          refine C.iconst (q := 596) (z := (1 : Int32)) at_595 rfl rfl ?_
                          refine C.goto (q := 600) at_596 (by decide) (by decide) ?_
                          refine C.istore (q := 602) (ls' := [.val (.int p0), .val (.int p1), .val (.int p2), .val (.int p3), .val (.int p4), .val (.int (Int32.ofNat n)), .val (.int fb), .val (.int fd), .val (.int (Int32.ofNat a)), .val (.int (Int32.ofNat b)), .val (.int (Int32.ofNat c)), .val (.int (Int32.ofNat d)), .val (.ref o), .val (.ref ls), .val (.int (1 : Int32)), .val (.int (1 : Int32)), .val (.int (1 : Int32)), .val (.int (1 : Int32)), .val (.int (1 : Int32)), .val (.int (own_g s.2.2.1 (0 : Int32))), .val (.int k1), .val (.int k2), .val (.int k3), .val (.int g0), .val (.int g1), .val (.int g2), .val (.int g3), .val (.int (1 : Int32)), .val (.int mk), .val (.int ((((mk &&& (1 : Int32)) + ((mk >>> ((1 : Int32) &&& 31)) &&& (1 : Int32))) + ((mk >>> ((2 : Int32) &&& 31)) &&& (1 : Int32))) + ((mk >>> ((3 : Int32) &&& 31)) &&& (1 : Int32)))), .val (.int (1 : Int32))]) at_600 rfl rfl ?_
                          refine C.iload (q := 604) at_602 rfl rfl ?_
                          refine C.ifEq (q := 641) (q' := 607) at_604 (by decide) (by decide) rfl (fun h604 => absurd h604 (by decide)) (fun h604 => ?_)
                          refine C.iload (q := 609) at_607 rfl rfl ?_
                          refine C.ifEq (q := 641) (q' := 612) at_609 (by decide) (by decide) rfl (fun h609 => absurd h609 (by decide)) (fun h609 => ?_)
                          refine C.iload (q := 614) at_612 rfl rfl ?_
                          refine C.ifEq (q := 641) (q' := 617) at_614 (by decide) (by decide) rfl (fun h614 => absurd h614 (by decide)) (fun h614 => ?_)
                          refine C.iload (q := 619) at_617 rfl rfl ?_
                          refine C.ifEq (q := 641) (q' := 622) at_619 (by decide) (by decide) rfl (fun h619 => absurd h619 (by decide)) (fun h619 => ?_)
                          refine C.iload (q := 624) at_622 rfl rfl ?_
                          refine C.ifEq (q := 641) (q' := 627) at_624 (by decide) (by decide) rfl (fun h624 => absurd h624 (by decide)) (fun h624 => ?_)
                          refine C.iload (q := 629) at_627 rfl rfl ?_
                          refine C.ifEq (q := 641) (q' := 632) at_629 (by decide) (by decide) rfl (fun h629 => absurd h629 (by decide)) (fun h629 => ?_)
                          refine C.iload (q := 634) at_632 rfl rfl ?_
                          refine C.ifEq (q := 641) (q' := 637) at_634 (by decide) (by decide) rfl (fun h634 => absurd h634 (by decide)) (fun h634 => ?_)
                          refine C.iconst (q := 638) (z := (1 : Int32)) at_637 rfl rfl ?_
                          refine C.goto (q := 642) at_638 (by decide) (by decide) ?_
                          exact C.retB (by simp) at_642 (by decide) (by decide) rfl
                        refine C.icmpLe (q := 554) (q' := 547) at_544 (by decide) (by decide) rfl (fun h544 => ?_) (fun h544 => ?_)
                        · refine C.iconst (q := 548) (z := (1 : Int32)) at_547 rfl rfl ?_
                          refine C.iload (q := 550) at_548 rfl rfl ?_
                          refine C.ishl (q := 551) at_550 rfl ?_
                          refine C.goto (q := 555) at_551 (by decide) (by decide) ?_
                          exact J544 _ (if_pos h544).symm
                        · refine C.iconst (q := 555) (z := (0 : Int32)) at_554 rfl rfl ?_
                          exact J544 _ (if_neg h544).symm
                      refine C.icmpLe (q := 539) (q' := 532) at_529 (by decide) (by decide) rfl (fun h529 => ?_) (fun h529 => ?_)
                      · refine C.iconst (q := 533) (z := (1 : Int32)) at_532 rfl rfl ?_
                        refine C.iload (q := 535) at_533 rfl rfl ?_
                        refine C.ishl (q := 536) at_535 rfl ?_
                        refine C.goto (q := 540) at_536 (by decide) (by decide) ?_
                        exact J529 _ (if_pos h529).symm
                      · refine C.iconst (q := 540) (z := (0 : Int32)) at_539 rfl rfl ?_
                        exact J529 _ (if_neg h529).symm
                    refine C.icmpLe (q := 524) (q' := 517) at_514 (by decide) (by decide) rfl (fun h514 => ?_) (fun h514 => ?_)
                    · refine C.iconst (q := 518) (z := (1 : Int32)) at_517 rfl rfl ?_
                      refine C.iload (q := 520) at_518 rfl rfl ?_
                      refine C.ishl (q := 521) at_520 rfl ?_
                      refine C.goto (q := 525) at_521 (by decide) (by decide) ?_
                      exact J514 _ (if_pos h514).symm
                    · refine C.iconst (q := 525) (z := (0 : Int32)) at_524 rfl rfl ?_
                      exact J514 _ (if_neg h514).symm
                  refine C.icmpLe (q := 493) (q' := 489) at_486 (by decide) (by decide) rfl (fun h486 => ?_) (fun h486 => ?_)
                  · refine C.iconst (q := 490) (z := (1 : Int32)) at_489 rfl rfl ?_
                    refine C.goto (q := 494) at_490 (by decide) (by decide) ?_
                    exact J486 _ (if_pos h486).symm
                  · refine C.iconst (q := 494) (z := (0 : Int32)) at_493 rfl rfl ?_
                    exact J486 _ (if_neg h486).symm
                refine C.icmpLe (q := 468) (q' := 464) at_461 (by decide) (by decide) rfl (fun h461 => ?_) (fun h461 => ?_)
                · refine C.iconst (q := 465) (z := (1 : Int32)) at_464 rfl rfl ?_
                  refine C.goto (q := 469) at_465 (by decide) (by decide) ?_
                  exact J461 _ (if_pos h461).symm
                · refine C.iconst (q := 469) (z := (0 : Int32)) at_468 rfl rfl ?_
                  exact J461 _ (if_neg h461).symm
              refine C.icmpLe (q := 443) (q' := 439) at_436 (by decide) (by decide) rfl (fun h436 => ?_) (fun h436 => ?_)
              · refine C.iconst (q := 440) (z := (1 : Int32)) at_439 rfl rfl ?_
                refine C.goto (q := 444) at_440 (by decide) (by decide) ?_
                exact J436 _ (if_pos h436).symm
              · refine C.iconst (q := 444) (z := (0 : Int32)) at_443 rfl rfl ?_
                exact J436 _ (if_neg h436).symm
            refine C.icmpLe (q := 418) (q' := 414) at_411 (by decide) (by decide) rfl (fun h411 => ?_) (fun h411 => ?_)
            · refine C.iconst (q := 415) (z := (1 : Int32)) at_414 rfl rfl ?_
              refine C.goto (q := 419) at_415 (by decide) (by decide) ?_
              exact J411 _ (if_pos h411).symm
            · refine C.iconst (q := 419) (z := (0 : Int32)) at_418 rfl rfl ?_
              exact J411 _ (if_neg h411).symm
          refine C.icmpLe (q := 393) (q' := 389) at_386 (by decide) (by decide) rfl (fun h386 => ?_) (fun h386 => ?_)
          · refine C.iconst (q := 390) (z := (1 : Int32)) at_389 rfl rfl ?_
            refine C.goto (q := 394) at_390 (by decide) (by decide) ?_
            exact J386 _ (if_pos h386).symm
          · refine C.iconst (q := 394) (z := (0 : Int32)) at_393 rfl rfl ?_
            exact J386 _ (if_neg h386).symm
        refine C.icmpLe (q := 368) (q' := 364) at_361 (by decide) (by decide) rfl (fun h361 => ?_) (fun h361 => ?_)
        · refine C.iconst (q := 365) (z := (1 : Int32)) at_364 rfl rfl ?_
          refine C.goto (q := 369) at_365 (by decide) (by decide) ?_
          exact J361 _ (if_pos h361).symm
        · refine C.iconst (q := 369) (z := (0 : Int32)) at_368 rfl rfl ?_
          exact J361 _ (if_neg h361).symm
      refine C.icmpLe (q := 275) (q' := 266) at_263 (by decide) (by decide) rfl (fun h263 => ?_) (fun h263 => ?_)
      · refine C.aload (q := 268) at_266 rfl rfl rfl ?_
        refine C.iconst (q := 269) (z := (3 : Int32)) at_268 rfl rfl ?_
        refine C.callV (q := 272) 0 0 [.int (3 : Int32)] [] at_269 (hw _ (List.mem_of_getElem? (i := 46) rfl)) (hw _ (List.mem_of_getElem? (i := 47) rfl)) (hw _ (List.mem_of_getElem? (i := 48) rfl)) (hw _ (List.mem_of_getElem? (i := 49) rfl)) (hw _ (List.mem_of_getElem? (i := 3) rfl)) (hw _ (List.mem_of_getElem? (i := 50) rfl)) (own_c3 l Z a0 n0 hw [] o r0 r1 r2 r3 r4 r5 r6 _ s.1 s.2.1 s.2.2.1 s.2.2.2.1 s.2.2.2.2.1 s.2.2.2.2.2.1 s.2.2.2.2.2.2.1 s.2.2.2.2.2.2.2.1 s.2.2.2.2.2.2.2.2 (3 : Int32) (tl.2.2.2.1 h263)) (by decide) (by decide) (by decide) own_pd1 rfl rfl rfl rfl (Nat.le_of_eq rfl) (by decide) (by decide) rfl ?_
        rintro _ _ ⟨rfl, hE⟩
        rw [hE]
        show G 9 37 (own_HT o ls r0 r1 r2 r3 r4 r5 r6 s) 272 [.val (.int p0), .val (.int p1), .val (.int p2), .val (.int p3), .val (.int p4), .val (.int (Int32.ofNat n)), .val (.int fb), .val (.int fd), .val (.int (Int32.ofNat a)), .val (.int (Int32.ofNat b)), .val (.int (Int32.ofNat c)), .val (.int (Int32.ofNat d)), .val (.ref o), .val (.ref ls), .val (.int (1 : Int32)), .val (.int (1 : Int32)), .val (.int (1 : Int32)), .val (.int (1 : Int32)), .val (.int (1 : Int32)), .val (.int (own_g s.2.2.1 (0 : Int32))), .val (.int k1), .val (.int k2), .unset, .unset, .unset, .unset, .unset, .unset, .unset, .unset, .unset] [.int (own_g s.2.2.1 (3 : Int32))]
        refine C.goto (q := 276) at_272 (by decide) (by decide) ?_
        exact J263 _ (if_pos h263).symm
      · refine C.iconst (q := 276) (z := (-1 : Int32)) at_275 rfl rfl ?_
        exact J263 _ (if_neg h263).symm
    refine C.icmpLe (q := 257) (q' := 248) at_245 (by decide) (by decide) rfl (fun h245 => ?_) (fun h245 => ?_)
    · refine C.aload (q := 250) at_248 rfl rfl rfl ?_
      refine C.iconst (q := 251) (z := (2 : Int32)) at_250 rfl rfl ?_
      refine C.callV (q := 254) 0 0 [.int (2 : Int32)] [] at_251 (hw _ (List.mem_of_getElem? (i := 46) rfl)) (hw _ (List.mem_of_getElem? (i := 47) rfl)) (hw _ (List.mem_of_getElem? (i := 48) rfl)) (hw _ (List.mem_of_getElem? (i := 49) rfl)) (hw _ (List.mem_of_getElem? (i := 3) rfl)) (hw _ (List.mem_of_getElem? (i := 50) rfl)) (own_c3 l Z a0 n0 hw [] o r0 r1 r2 r3 r4 r5 r6 _ s.1 s.2.1 s.2.2.1 s.2.2.2.1 s.2.2.2.2.1 s.2.2.2.2.2.1 s.2.2.2.2.2.2.1 s.2.2.2.2.2.2.2.1 s.2.2.2.2.2.2.2.2 (2 : Int32) (tl.2.2.1 h245)) (by decide) (by decide) (by decide) own_pd1 rfl rfl rfl rfl (Nat.le_of_eq rfl) (by decide) (by decide) rfl ?_
      rintro _ _ ⟨rfl, hE⟩
      rw [hE]
      show G 9 37 (own_HT o ls r0 r1 r2 r3 r4 r5 r6 s) 254 [.val (.int p0), .val (.int p1), .val (.int p2), .val (.int p3), .val (.int p4), .val (.int (Int32.ofNat n)), .val (.int fb), .val (.int fd), .val (.int (Int32.ofNat a)), .val (.int (Int32.ofNat b)), .val (.int (Int32.ofNat c)), .val (.int (Int32.ofNat d)), .val (.ref o), .val (.ref ls), .val (.int (1 : Int32)), .val (.int (1 : Int32)), .val (.int (1 : Int32)), .val (.int (1 : Int32)), .val (.int (1 : Int32)), .val (.int (own_g s.2.2.1 (0 : Int32))), .val (.int k1), .unset, .unset, .unset, .unset, .unset, .unset, .unset, .unset, .unset, .unset] [.int (own_g s.2.2.1 (2 : Int32))]
      refine C.goto (q := 258) at_254 (by decide) (by decide) ?_
      exact J245 _ (if_pos h245).symm
    · refine C.iconst (q := 258) (z := (-1 : Int32)) at_257 rfl rfl ?_
      exact J245 _ (if_neg h245).symm
  refine C.icmpLe (q := 239) (q' := 230) at_227 (by decide) (by decide) rfl (fun h227 => ?_) (fun h227 => ?_)
  · refine C.aload (q := 232) at_230 rfl rfl rfl ?_
    refine C.iconst (q := 233) (z := (1 : Int32)) at_232 rfl rfl ?_
    refine C.callV (q := 236) 0 0 [.int (1 : Int32)] [] at_233 (hw _ (List.mem_of_getElem? (i := 46) rfl)) (hw _ (List.mem_of_getElem? (i := 47) rfl)) (hw _ (List.mem_of_getElem? (i := 48) rfl)) (hw _ (List.mem_of_getElem? (i := 49) rfl)) (hw _ (List.mem_of_getElem? (i := 3) rfl)) (hw _ (List.mem_of_getElem? (i := 50) rfl)) (own_c3 l Z a0 n0 hw [] o r0 r1 r2 r3 r4 r5 r6 _ s.1 s.2.1 s.2.2.1 s.2.2.2.1 s.2.2.2.2.1 s.2.2.2.2.2.1 s.2.2.2.2.2.2.1 s.2.2.2.2.2.2.2.1 s.2.2.2.2.2.2.2.2 (1 : Int32) (tl.2.1 h227)) (by decide) (by decide) (by decide) own_pd1 rfl rfl rfl rfl (Nat.le_of_eq rfl) (by decide) (by decide) rfl ?_
    rintro _ _ ⟨rfl, hE⟩
    rw [hE]
    show G 9 37 (own_HT o ls r0 r1 r2 r3 r4 r5 r6 s) 236 [.val (.int p0), .val (.int p1), .val (.int p2), .val (.int p3), .val (.int p4), .val (.int (Int32.ofNat n)), .val (.int fb), .val (.int fd), .val (.int (Int32.ofNat a)), .val (.int (Int32.ofNat b)), .val (.int (Int32.ofNat c)), .val (.int (Int32.ofNat d)), .val (.ref o), .val (.ref ls), .val (.int (1 : Int32)), .val (.int (1 : Int32)), .val (.int (1 : Int32)), .val (.int (1 : Int32)), .val (.int (1 : Int32)), .val (.int (own_g s.2.2.1 (0 : Int32))), .unset, .unset, .unset, .unset, .unset, .unset, .unset, .unset, .unset, .unset, .unset] [.int (own_g s.2.2.1 (1 : Int32))]
    refine C.goto (q := 240) at_236 (by decide) (by decide) ?_
    exact J227 _ (if_pos h227).symm
  · refine C.iconst (q := 240) (z := (-1 : Int32)) at_239 rfl rfl ?_
    exact J227 _ (if_neg h227).symm
theorem own_n14 (a : Int32) : ∃ n : Nat, (1 ≤ n ∧ n ≤ 4) ∧ (1 : Int32) + (a &&& (3 : Int32)) = Int32.ofNat n := by
  have m := c_mask a 3 2 (by decide) (by decide)
  generalize (a &&& (3 : Int32)) = u at *
  have d := c_iadd 1 u; have r := rng32 (1 + u)
  simp only [Int32.reduceToInt] at d
  exact ⟨((1 : Int32) + u).toInt.toNat, by omega, own_ofInt (by omega) (by omega)⟩
theorem own_ky (a : Int32) {kc : Nat} (h : 1 ≤ kc ∧ kc ≤ 4) : ∃ n : Nat, n < kc ∧ (a &&& (2147483647 : Int32)) % (Int32.ofNat kc) = Int32.ofNat n := by
  have m := c_mask a 2147483647 31 (by decide) (by decide); have e2 := own_ti (n := kc) (by omega)
  have e := (c_iremV (a &&& 2147483647) (Int32.ofNat kc)).1 (by omega) (by omega)
  exact ⟨((a &&& (2147483647 : Int32)) % (Int32.ofNat kc)).toInt.toNat, by omega, own_ofInt (by omega) (by omega)⟩
theorem own_k0 {kc : Nat} (h : 1 ≤ kc ∧ kc ≤ 4) : Int32.ofNat kc ≠ 0 := fun z => by
  have e := own_ti (n := kc) (by omega); rw [z] at e; simp only [Int32.reduceToInt] at e; omega
theorem own_m1 (l : Launch) (Z : State) (a0 : Array Value) (n0 : Nat) (hw : ∀ d ∈ tables_1, d.before a0 Z = true) (ws : List Jvm.Cond) (o ls r0 r1 r2 r3 r4 r5 r6 : Addr) (s : own_RP) (e : Int32) (ok : own_mp s e) : own_Con l Z n0 (⟨"com/example/terms_to_transitions/termstotransitions/equivalence/RefinablePartition", "mark", "(I)Z"⟩ : MethodName) prog_7_method_9_code 6 (some .boolean) ws ({ frames := 0, cells := 0, slots := 0, locals := 0 } : Room) #[.ref o, .int e] (own_HT o ls r0 r1 r2 r3 r4 r5 r6 s) (fun v H' => v = some (.int (own_mr s e)) ∧ H' = own_HT o ls r0 r1 r2 r3 r4 r5 r6 (own_mk s e)) :=
  own_c1 l Z a0 n0 hw ws o r0 r1 r2 r3 r4 r5 r6 [(ls, .inr ("com/example/terms_to_transitions/termstotransitions/equivalence/RefinablePartitionMarkPinLaw", []))] s.1 s.2.1 s.2.2.1 s.2.2.2.1 s.2.2.2.2.1 s.2.2.2.2.2.1 s.2.2.2.2.2.2.1 s.2.2.2.2.2.2.2.1 s.2.2.2.2.2.2.2.2 e ok
theorem own_m8 (l : Launch) (Z : State) (a0 : Array Value) (n0 : Nat) (hw : ∀ d ∈ tables_1, d.before a0 Z = true) (ws : List Jvm.Cond) (o ls r0 r1 r2 r3 r4 r5 r6 : Addr) (s : own_RP) (ok : own_sb s) : own_Con l Z n0 (⟨"com/example/terms_to_transitions/termstotransitions/equivalence/RefinablePartition", "split", "(Lcom/example/terms_to_transitions/termstotransitions/equivalence/RefinablePartition$SplitListener;)V"⟩ : MethodName) prog_7_method_10_code 9 none ws ({ frames := 1, cells := 0, slots := 0, locals := 24 } : Room) #[.ref o, .ref ls] (own_HT o ls r0 r1 r2 r3 r4 r5 r6 s) (fun v H' => v = none ∧ H' = own_HT o ls r0 r1 r2 r3 r4 r5 r6 (own_split s)) :=
  own_c8 l Z a0 n0 hw ws o ls r0 r1 r2 r3 r4 r5 r6 [] s ok.1 ok.2
theorem own_pnlaw : plainFor x = true := by first | exact plainFor_of_name (by first | (simp [plainName, overriddenIn]; done) | decide +kernel) | decide +kernel
set_option maxHeartbeats 4000000 in
theorem own_eflaw (m : MethodId) (x0 : Int32) (x1 : Int32) (x2 : Int32) (x3 : Int32) (x4 : Int32) : entryFrame m #[.int x0, .int x1, .int x2, .int x3, .int x4] maxLocals = mkF m 0 #[.val (.int x0), .val (.int x1), .val (.int x2), .val (.int x3), .val (.int x4), .unset, .unset, .unset, .unset, .unset, .unset, .unset, .unset, .unset, .unset, .unset, .unset, .unset, .unset, .unset, .unset, .unset, .unset, .unset, .unset, .unset, .unset, .unset, .unset, .unset, .unset] [] := by first | (simp [entryFrame, mkF, argsToLocals, Value.category, maxLocals]; done) | rfl
set_option maxRecDepth 65536 in
set_option maxHeartbeats 40000000 in
theorem own_claw (l : Launch) (Z : State) (a0 : Array Value) (n0 : Nat) (hw : ∀ d ∈ tables_1, d.before a0 Z = true) (ws : List Jvm.Cond) (p0 p1 p2 p3 p4 : Int32)  :
    own_Con l Z n0 x code maxLocals ret ws room_1 #[.int p0, .int p1, .int p2, .int p3, .int p4] [] (fun v _ => v = some (.int 1)) := by
  refine own_con own_pnlaw (fun m_ => own_eflaw m_ p0 p1 p2 p3 p4) ?_
  intro G C
  refine C.iconst (q := 1) (z := (1 : Int32)) at_0 rfl rfl ?_
  refine C.iloadN (q := 2) at_1 rfl rfl ?_
  refine C.iconst (q := 3) (z := (3 : Int32)) at_2 rfl rfl ?_
  refine C.iand (q := 4) at_3 rfl ?_
  refine C.iadd (q := 5) at_4 rfl ?_
  obtain ⟨n, hn, en⟩ := own_n14 p0
  rw [en]
  refine C.istore (q := 7) (ls' := [.val (.int p0), .val (.int p1), .val (.int p2), .val (.int p3), .val (.int p4), .val (.int (Int32.ofNat n)), .unset, .unset, .unset, .unset, .unset, .unset, .unset, .unset, .unset, .unset, .unset, .unset, .unset, .unset, .unset, .unset, .unset, .unset, .unset, .unset, .unset, .unset, .unset, .unset, .unset]) at_5 rfl rfl ?_
  refine C.iloadN (q := 8) at_7 rfl rfl ?_
  refine C.iconst (q := 9) (z := (4 : Int32)) at_8 rfl rfl ?_
  refine C.iand (q := 10) at_9 rfl ?_
  refine C.ifEq (q := 17) (q' := 13) at_10 (by decide) (by decide) rfl (fun h10 => ?_) (fun h10 => ?_)
  · refine C.iconst (q := 18) (z := (0 : Int32)) at_17 rfl rfl ?_
    refine C.istore (q := 20) (ls' := [.val (.int p0), .val (.int p1), .val (.int p2), .val (.int p3), .val (.int p4), .val (.int (Int32.ofNat n)), .val (.int (0 : Int32)), .unset, .unset, .unset, .unset, .unset, .unset, .unset, .unset, .unset, .unset, .unset, .unset, .unset, .unset, .unset, .unset, .unset, .unset, .unset, .unset, .unset, .unset, .unset, .unset]) at_18 rfl rfl ?_
    refine C.iloadN (q := 21) at_20 rfl rfl ?_
    refine C.bipush (q := 23) (z := (8 : Int32)) at_21 rfl rfl ?_
    refine C.iand (q := 24) at_23 rfl ?_
    refine C.ifEq (q := 31) (q' := 27) at_24 (by decide) (by decide) rfl (fun h24 => ?_) (fun h24 => ?_)
    · refine C.iconst (q := 32) (z := (0 : Int32)) at_31 rfl rfl ?_
      refine C.istore (q := 34) (ls' := [.val (.int p0), .val (.int p1), .val (.int p2), .val (.int p3), .val (.int p4), .val (.int (Int32.ofNat n)), .val (.int (0 : Int32)), .val (.int (0 : Int32)), .unset, .unset, .unset, .unset, .unset, .unset, .unset, .unset, .unset, .unset, .unset, .unset, .unset, .unset, .unset, .unset, .unset, .unset, .unset, .unset, .unset, .unset, .unset]) at_32 rfl rfl ?_
      refine C.iloadN (q := 35) at_34 rfl rfl ?_
      refine C.ldc (q := 37) (v := (2147483647 : Int32)) at_35 (hw _ (List.mem_of_getElem? (i := 0) rfl)) rfl ?_
      refine C.iand (q := 38) at_37 rfl ?_
      refine C.iload (q := 40) at_38 rfl rfl ?_
      refine C.irem (q := 41) at_40 (own_k0 hn) rfl ?_
      obtain ⟨a, ha, ea⟩ := own_ky p1 hn
      rw [ea]
      refine C.istore (q := 43) (ls' := [.val (.int p0), .val (.int p1), .val (.int p2), .val (.int p3), .val (.int p4), .val (.int (Int32.ofNat n)), .val (.int (0 : Int32)), .val (.int (0 : Int32)), .val (.int (Int32.ofNat a)), .unset, .unset, .unset, .unset, .unset, .unset, .unset, .unset, .unset, .unset, .unset, .unset, .unset, .unset, .unset, .unset, .unset, .unset, .unset, .unset, .unset, .unset]) at_41 rfl rfl ?_
      refine C.iloadN (q := 44) at_43 rfl rfl ?_
      refine C.ldc (q := 46) (v := (2147483647 : Int32)) at_44 (hw _ (List.mem_of_getElem? (i := 0) rfl)) rfl ?_
      refine C.iand (q := 47) at_46 rfl ?_
      refine C.iload (q := 49) at_47 rfl rfl ?_
      refine C.irem (q := 50) at_49 (own_k0 hn) rfl ?_
      obtain ⟨b, hb, eb⟩ := own_ky p2 hn
      rw [eb]
      refine C.istore (q := 52) (ls' := [.val (.int p0), .val (.int p1), .val (.int p2), .val (.int p3), .val (.int p4), .val (.int (Int32.ofNat n)), .val (.int (0 : Int32)), .val (.int (0 : Int32)), .val (.int (Int32.ofNat a)), .val (.int (Int32.ofNat b)), .unset, .unset, .unset, .unset, .unset, .unset, .unset, .unset, .unset, .unset, .unset, .unset, .unset, .unset, .unset, .unset, .unset, .unset, .unset, .unset, .unset]) at_50 rfl rfl ?_
      refine C.iloadN (q := 53) at_52 rfl rfl ?_
      refine C.ldc (q := 55) (v := (2147483647 : Int32)) at_53 (hw _ (List.mem_of_getElem? (i := 0) rfl)) rfl ?_
      refine C.iand (q := 56) at_55 rfl ?_
      refine C.iload (q := 58) at_56 rfl rfl ?_
      refine C.irem (q := 59) at_58 (own_k0 hn) rfl ?_
      obtain ⟨c, hc, ec⟩ := own_ky p3 hn
      rw [ec]
      refine C.istore (q := 61) (ls' := [.val (.int p0), .val (.int p1), .val (.int p2), .val (.int p3), .val (.int p4), .val (.int (Int32.ofNat n)), .val (.int (0 : Int32)), .val (.int (0 : Int32)), .val (.int (Int32.ofNat a)), .val (.int (Int32.ofNat b)), .val (.int (Int32.ofNat c)), .unset, .unset, .unset, .unset, .unset, .unset, .unset, .unset, .unset, .unset, .unset, .unset, .unset, .unset, .unset, .unset, .unset, .unset, .unset, .unset]) at_59 rfl rfl ?_
      refine C.iload (q := 63) at_61 rfl rfl ?_
      refine C.ldc (q := 65) (v := (2147483647 : Int32)) at_63 (hw _ (List.mem_of_getElem? (i := 0) rfl)) rfl ?_
      refine C.iand (q := 66) at_65 rfl ?_
      refine C.iload (q := 68) at_66 rfl rfl ?_
      refine C.irem (q := 69) at_68 (own_k0 hn) rfl ?_
      obtain ⟨d, hd, ed⟩ := own_ky p4 hn
      rw [ed]
      refine C.istore (q := 71) (ls' := [.val (.int p0), .val (.int p1), .val (.int p2), .val (.int p3), .val (.int p4), .val (.int (Int32.ofNat n)), .val (.int (0 : Int32)), .val (.int (0 : Int32)), .val (.int (Int32.ofNat a)), .val (.int (Int32.ofNat b)), .val (.int (Int32.ofNat c)), .val (.int (Int32.ofNat d)), .unset, .unset, .unset, .unset, .unset, .unset, .unset, .unset, .unset, .unset, .unset, .unset, .unset, .unset, .unset, .unset, .unset, .unset, .unset]) at_69 rfl rfl ?_
      refine C.newobj (q := 74) [("elements", "[I", (.array .int)), ("locations", "[I", (.array .int)), ("blocks", "[I", (.array .int)), ("starts", "[I", (.array .int)), ("ends", "[I", (.array .int)), ("markedEnds", "[I", (.array .int)), ("touched", "[I", (.array .int)), ("blockCount", "I", .int), ("touchedCount", "I", .int)] (fs := [("elements", "[I", .null), ("locations", "[I", .null), ("blocks", "[I", .null), ("starts", "[I", .null), ("ends", "[I", .null), ("markedEnds", "[I", .null), ("touched", "[I", .null), ("blockCount", "I", .int (0 : Int32)), ("touchedCount", "I", .int (0 : Int32))]) (k' := 1) (n' := 9) at_71 (hw _ (List.mem_of_getElem? (i := 1) rfl)) (hw _ (List.mem_of_getElem? (i := 2) rfl)) (hw _ (List.mem_of_getElem? (i := 3) rfl)) ⟨⟨Or.inr (hw _ (List.mem_of_getElem? (i := 12) rfl)), by decide⟩, ⟨⟨Or.inr (hw _ (List.mem_of_getElem? (i := 14) rfl)), by decide⟩, ⟨⟨Or.inr (hw _ (List.mem_of_getElem? (i := 16) rfl)), by decide⟩, ⟨⟨Or.inr (hw _ (List.mem_of_getElem? (i := 18) rfl)), by decide⟩, ⟨⟨Or.inr (hw _ (List.mem_of_getElem? (i := 20) rfl)), by decide⟩, ⟨⟨Or.inr (hw _ (List.mem_of_getElem? (i := 22) rfl)), by decide⟩, ⟨⟨Or.inr (hw _ (List.mem_of_getElem? (i := 24) rfl)), by decide⟩, ⟨⟨Or.inl (hw _ (List.mem_of_getElem? (i := 26) rfl)), by decide⟩, ⟨⟨Or.inl (hw _ (List.mem_of_getElem? (i := 40) rfl)), by decide⟩, trivial⟩⟩⟩⟩⟩⟩⟩⟩⟩ (by decide) (by decide) (by decide) rfl rfl rfl rfl (fun a71 => ?_)
      show G 1 9 [(a71, .inr ("com/example/terms_to_transitions/termstotransitions/equivalence/RefinablePartition", [("elements", "[I", .null), ("locations", "[I", .null), ("blocks", "[I", .null), ("starts", "[I", .null), ("ends", "[I", .null), ("markedEnds", "[I", .null), ("touched", "[I", .null), ("blockCount", "I", .int (0 : Int32)), ("touchedCount", "I", .int (0 : Int32))]))] 74 [.val (.int p0), .val (.int p1), .val (.int p2), .val (.int p3), .val (.int p4), .val (.int (Int32.ofNat n)), .val (.int (0 : Int32)), .val (.int (0 : Int32)), .val (.int (Int32.ofNat a)), .val (.int (Int32.ofNat b)), .val (.int (Int32.ofNat c)), .val (.int (Int32.ofNat d)), .unset, .unset, .unset, .unset, .unset, .unset, .unset, .unset, .unset, .unset, .unset, .unset, .unset, .unset, .unset, .unset, .unset, .unset, .unset] [.ref a71]
      refine C.dup (q := 75) at_74 rfl rfl ?_
      refine C.iload (q := 77) at_75 rfl rfl ?_
      refine C.callI (q := 80) 1 a71 [.int (Int32.ofNat n)] [.ref a71] at_77 (hw _ (List.mem_of_getElem? (i := 4) rfl)) (hw _ (List.mem_of_getElem? (i := 5) rfl)) (hw _ (List.mem_of_getElem? (i := 3) rfl)) (hw _ (List.mem_of_getElem? (i := 6) rfl)) (own_c9 l Z a0 n0 hw [] a71 n hn) rfl (by decide) (by decide) (by decide) own_pd5 rfl rfl rfl (Nat.le_of_eq rfl) (by decide) (by decide) rfl ?_
      rintro _ _ ⟨rfl, r0, r1, r2, r3, r4, r5, r6, rfl⟩
      show G 8 37 [(a71, .inr ("com/example/terms_to_transitions/termstotransitions/equivalence/RefinablePartition", [("elements", "[I", .ref r0), ("locations", "[I", .ref r1), ("blocks", "[I", .ref r2), ("starts", "[I", .ref r3), ("ends", "[I", .ref r4), ("markedEnds", "[I", .ref r5), ("touched", "[I", .ref r6), ("blockCount", "I", .int ((own_z n).2.2.2.2.2.2.2.2)), ("touchedCount", "I", .int ((own_z n).2.2.2.2.2.2.2.1))])), (r0, .inl (.int, (own_vl (own_z n).1))), (r1, .inl (.int, (own_vl (own_z n).2.1))), (r2, .inl (.int, (own_vl (own_z n).2.2.1))), (r3, .inl (.int, (own_vl (own_z n).2.2.2.1))), (r4, .inl (.int, (own_vl (own_z n).2.2.2.2.1))), (r5, .inl (.int, (own_vl (own_z n).2.2.2.2.2.1))), (r6, .inl (.int, (own_vl (own_z n).2.2.2.2.2.2.1)))] 80 [.val (.int p0), .val (.int p1), .val (.int p2), .val (.int p3), .val (.int p4), .val (.int (Int32.ofNat n)), .val (.int (0 : Int32)), .val (.int (0 : Int32)), .val (.int (Int32.ofNat a)), .val (.int (Int32.ofNat b)), .val (.int (Int32.ofNat c)), .val (.int (Int32.ofNat d)), .unset, .unset, .unset, .unset, .unset, .unset, .unset, .unset, .unset, .unset, .unset, .unset, .unset, .unset, .unset, .unset, .unset, .unset, .unset] [.ref a71]
      refine C.astore (q := 82) (ls' := [.val (.int p0), .val (.int p1), .val (.int p2), .val (.int p3), .val (.int p4), .val (.int (Int32.ofNat n)), .val (.int (0 : Int32)), .val (.int (0 : Int32)), .val (.int (Int32.ofNat a)), .val (.int (Int32.ofNat b)), .val (.int (Int32.ofNat c)), .val (.int (Int32.ofNat d)), .val (.ref a71), .unset, .unset, .unset, .unset, .unset, .unset, .unset, .unset, .unset, .unset, .unset, .unset, .unset, .unset, .unset, .unset, .unset, .unset]) at_80 rfl rfl rfl ?_
      refine C.newobj (q := 85) [] (fs := []) (k' := 9) (n' := 37) at_82 (hw _ (List.mem_of_getElem? (i := 27) rfl)) (hw _ (List.mem_of_getElem? (i := 28) rfl)) (hw _ (List.mem_of_getElem? (i := 29) rfl)) trivial (by decide) (by decide) (by decide) rfl rfl rfl rfl (fun a82 => ?_)
      show G 9 37 [(a71, .inr ("com/example/terms_to_transitions/termstotransitions/equivalence/RefinablePartition", [("elements", "[I", .ref r0), ("locations", "[I", .ref r1), ("blocks", "[I", .ref r2), ("starts", "[I", .ref r3), ("ends", "[I", .ref r4), ("markedEnds", "[I", .ref r5), ("touched", "[I", .ref r6), ("blockCount", "I", .int ((own_z n).2.2.2.2.2.2.2.2)), ("touchedCount", "I", .int ((own_z n).2.2.2.2.2.2.2.1))])), (r0, .inl (.int, (own_vl (own_z n).1))), (r1, .inl (.int, (own_vl (own_z n).2.1))), (r2, .inl (.int, (own_vl (own_z n).2.2.1))), (r3, .inl (.int, (own_vl (own_z n).2.2.2.1))), (r4, .inl (.int, (own_vl (own_z n).2.2.2.2.1))), (r5, .inl (.int, (own_vl (own_z n).2.2.2.2.2.1))), (r6, .inl (.int, (own_vl (own_z n).2.2.2.2.2.2.1))), (a82, .inr ("com/example/terms_to_transitions/termstotransitions/equivalence/RefinablePartitionMarkPinLaw", []))] 85 [.val (.int p0), .val (.int p1), .val (.int p2), .val (.int p3), .val (.int p4), .val (.int (Int32.ofNat n)), .val (.int (0 : Int32)), .val (.int (0 : Int32)), .val (.int (Int32.ofNat a)), .val (.int (Int32.ofNat b)), .val (.int (Int32.ofNat c)), .val (.int (Int32.ofNat d)), .val (.ref a71), .unset, .unset, .unset, .unset, .unset, .unset, .unset, .unset, .unset, .unset, .unset, .unset, .unset, .unset, .unset, .unset, .unset, .unset] [.ref a82]
      show G 9 37 (own_HT a71 a82 r0 r1 r2 r3 r4 r5 r6 (own_z n)) 85 [.val (.int p0), .val (.int p1), .val (.int p2), .val (.int p3), .val (.int p4), .val (.int (Int32.ofNat n)), .val (.int (0 : Int32)), .val (.int (0 : Int32)), .val (.int (Int32.ofNat a)), .val (.int (Int32.ofNat b)), .val (.int (Int32.ofNat c)), .val (.int (Int32.ofNat d)), .val (.ref a71), .unset, .unset, .unset, .unset, .unset, .unset, .unset, .unset, .unset, .unset, .unset, .unset, .unset, .unset, .unset, .unset, .unset, .unset] [.ref a82]
      obtain ⟨f0, f1, f2, f3, f4, gA, gC, gC2, gT⟩ := own_all00 hn.1 hn.2 ha hb hc hd
      refine C.dup (q := 86) at_85 rfl rfl ?_
      refine C.callI (q := 89) 1 a82 [] [.ref a82] at_86 (hw _ (List.mem_of_getElem? (i := 30) rfl)) (hw _ (List.mem_of_getElem? (i := 31) rfl)) (hw _ (List.mem_of_getElem? (i := 29) rfl)) (hw _ (List.mem_of_getElem? (i := 32) rfl)) (own_c7 l Z a0 n0 hw [] a82 (own_HT a71 a82 r0 r1 r2 r3 r4 r5 r6 (own_z n))) rfl (by decide) (by decide) (by decide) own_pd6 rfl rfl rfl (Nat.le_of_eq rfl) (by decide) (by decide) rfl ?_
      rintro _ _ ⟨rfl, hE⟩
      rw [hE]
      show G 9 37 (own_HT a71 a82 r0 r1 r2 r3 r4 r5 r6 (own_z n)) 89 [.val (.int p0), .val (.int p1), .val (.int p2), .val (.int p3), .val (.int p4), .val (.int (Int32.ofNat n)), .val (.int (0 : Int32)), .val (.int (0 : Int32)), .val (.int (Int32.ofNat a)), .val (.int (Int32.ofNat b)), .val (.int (Int32.ofNat c)), .val (.int (Int32.ofNat d)), .val (.ref a71), .unset, .unset, .unset, .unset, .unset, .unset, .unset, .unset, .unset, .unset, .unset, .unset, .unset, .unset, .unset, .unset, .unset, .unset] [.ref a82]
      refine C.astore (q := 91) (ls' := [.val (.int p0), .val (.int p1), .val (.int p2), .val (.int p3), .val (.int p4), .val (.int (Int32.ofNat n)), .val (.int (0 : Int32)), .val (.int (0 : Int32)), .val (.int (Int32.ofNat a)), .val (.int (Int32.ofNat b)), .val (.int (Int32.ofNat c)), .val (.int (Int32.ofNat d)), .val (.ref a71), .val (.ref a82), .unset, .unset, .unset, .unset, .unset, .unset, .unset, .unset, .unset, .unset, .unset, .unset, .unset, .unset, .unset, .unset, .unset]) at_89 rfl rfl rfl ?_
      refine C.aload (q := 93) at_91 rfl rfl rfl ?_
      refine C.iload (q := 95) at_93 rfl rfl ?_
      refine C.callV (q := 98) 0 0 [.int (Int32.ofNat a)] [] at_95 (hw _ (List.mem_of_getElem? (i := 34) rfl)) (hw _ (List.mem_of_getElem? (i := 35) rfl)) (hw _ (List.mem_of_getElem? (i := 36) rfl)) (hw _ (List.mem_of_getElem? (i := 37) rfl)) (hw _ (List.mem_of_getElem? (i := 3) rfl)) (hw _ (List.mem_of_getElem? (i := 38) rfl)) (own_m1 l Z a0 n0 hw [] a71 a82 r0 r1 r2 r3 r4 r5 r6 (own_z n) (Int32.ofNat a) f0) (by decide) (by decide) (by decide) own_pd7 rfl rfl rfl rfl (Nat.le_of_eq rfl) (by decide) (by decide) rfl ?_
      rintro _ _ ⟨rfl, hE⟩
      rw [hE, gA]
      show G 9 37 (own_HT a71 a82 r0 r1 r2 r3 r4 r5 r6 (own_mk (own_z n) (Int32.ofNat a))) 98 [.val (.int p0), .val (.int p1), .val (.int p2), .val (.int p3), .val (.int p4), .val (.int (Int32.ofNat n)), .val (.int (0 : Int32)), .val (.int (0 : Int32)), .val (.int (Int32.ofNat a)), .val (.int (Int32.ofNat b)), .val (.int (Int32.ofNat c)), .val (.int (Int32.ofNat d)), .val (.ref a71), .val (.ref a82), .unset, .unset, .unset, .unset, .unset, .unset, .unset, .unset, .unset, .unset, .unset, .unset, .unset, .unset, .unset, .unset, .unset] [.int (1 : Int32)]
      refine C.istore (q := 100) (ls' := [.val (.int p0), .val (.int p1), .val (.int p2), .val (.int p3), .val (.int p4), .val (.int (Int32.ofNat n)), .val (.int (0 : Int32)), .val (.int (0 : Int32)), .val (.int (Int32.ofNat a)), .val (.int (Int32.ofNat b)), .val (.int (Int32.ofNat c)), .val (.int (Int32.ofNat d)), .val (.ref a71), .val (.ref a82), .val (.int (1 : Int32)), .unset, .unset, .unset, .unset, .unset, .unset, .unset, .unset, .unset, .unset, .unset, .unset, .unset, .unset, .unset, .unset]) at_98 rfl rfl ?_
      refine C.iload (q := 102) at_100 rfl rfl ?_
      refine C.ifEq (q := 135) (q' := 105) at_102 (by decide) (by decide) rfl (fun h102 => ?_) (fun h102 => absurd (by decide) h102)
      refine C.iconst (q := 136) (z := (1 : Int32)) at_135 rfl rfl ?_
      refine C.istore (q := 138) (ls' := [.val (.int p0), .val (.int p1), .val (.int p2), .val (.int p3), .val (.int p4), .val (.int (Int32.ofNat n)), .val (.int (0 : Int32)), .val (.int (0 : Int32)), .val (.int (Int32.ofNat a)), .val (.int (Int32.ofNat b)), .val (.int (Int32.ofNat c)), .val (.int (Int32.ofNat d)), .val (.ref a71), .val (.ref a82), .val (.int (1 : Int32)), .val (.int (1 : Int32)), .unset, .unset, .unset, .unset, .unset, .unset, .unset, .unset, .unset, .unset, .unset, .unset, .unset, .unset, .unset]) at_136 rfl rfl ?_
      refine C.aload (q := 140) at_138 rfl rfl rfl ?_
      refine C.aload (q := 142) at_140 rfl rfl rfl ?_
      refine C.callV (q := 145) 0 0 [.ref a82] [] at_142 (hw _ (List.mem_of_getElem? (i := 41) rfl)) (hw _ (List.mem_of_getElem? (i := 42) rfl)) (hw _ (List.mem_of_getElem? (i := 43) rfl)) (hw _ (List.mem_of_getElem? (i := 44) rfl)) (hw _ (List.mem_of_getElem? (i := 3) rfl)) (hw _ (List.mem_of_getElem? (i := 45) rfl)) (own_m8 l Z a0 n0 hw [] a71 a82 r0 r1 r2 r3 r4 r5 r6 (own_mk (own_z n) (Int32.ofNat a)) f1) (by decide) (by decide) (by decide) own_pd8 rfl rfl rfl rfl (Nat.le_of_eq rfl) (by decide) (by decide) rfl ?_
      rintro _ _ ⟨rfl, hE⟩
      rw [hE]
      show G 9 37 (own_HT a71 a82 r0 r1 r2 r3 r4 r5 r6 (own_split (own_mk (own_z n) (Int32.ofNat a)))) 145 [.val (.int p0), .val (.int p1), .val (.int p2), .val (.int p3), .val (.int p4), .val (.int (Int32.ofNat n)), .val (.int (0 : Int32)), .val (.int (0 : Int32)), .val (.int (Int32.ofNat a)), .val (.int (Int32.ofNat b)), .val (.int (Int32.ofNat c)), .val (.int (Int32.ofNat d)), .val (.ref a71), .val (.ref a82), .val (.int (1 : Int32)), .val (.int (1 : Int32)), .unset, .unset, .unset, .unset, .unset, .unset, .unset, .unset, .unset, .unset, .unset, .unset, .unset, .unset, .unset] []
      refine C.aload (q := 147) at_145 rfl rfl rfl ?_
      refine C.iload (q := 149) at_147 rfl rfl ?_
      refine C.callV (q := 152) 0 0 [.int (Int32.ofNat c)] [] at_149 (hw _ (List.mem_of_getElem? (i := 34) rfl)) (hw _ (List.mem_of_getElem? (i := 35) rfl)) (hw _ (List.mem_of_getElem? (i := 36) rfl)) (hw _ (List.mem_of_getElem? (i := 37) rfl)) (hw _ (List.mem_of_getElem? (i := 3) rfl)) (hw _ (List.mem_of_getElem? (i := 38) rfl)) (own_m1 l Z a0 n0 hw [] a71 a82 r0 r1 r2 r3 r4 r5 r6 (own_split (own_mk (own_z n) (Int32.ofNat a))) (Int32.ofNat c) f2) (by decide) (by decide) (by decide) own_pd7 rfl rfl rfl rfl (Nat.le_of_eq rfl) (by decide) (by decide) rfl ?_
      rintro _ _ ⟨rfl, hE⟩
      rw [hE, gC]
      show G 9 37 (own_HT a71 a82 r0 r1 r2 r3 r4 r5 r6 (own_mk (own_split (own_mk (own_z n) (Int32.ofNat a))) (Int32.ofNat c))) 152 [.val (.int p0), .val (.int p1), .val (.int p2), .val (.int p3), .val (.int p4), .val (.int (Int32.ofNat n)), .val (.int (0 : Int32)), .val (.int (0 : Int32)), .val (.int (Int32.ofNat a)), .val (.int (Int32.ofNat b)), .val (.int (Int32.ofNat c)), .val (.int (Int32.ofNat d)), .val (.ref a71), .val (.ref a82), .val (.int (1 : Int32)), .val (.int (1 : Int32)), .unset, .unset, .unset, .unset, .unset, .unset, .unset, .unset, .unset, .unset, .unset, .unset, .unset, .unset, .unset] [.int (1 : Int32)]
      refine C.istore (q := 154) (ls' := [.val (.int p0), .val (.int p1), .val (.int p2), .val (.int p3), .val (.int p4), .val (.int (Int32.ofNat n)), .val (.int (0 : Int32)), .val (.int (0 : Int32)), .val (.int (Int32.ofNat a)), .val (.int (Int32.ofNat b)), .val (.int (Int32.ofNat c)), .val (.int (Int32.ofNat d)), .val (.ref a71), .val (.ref a82), .val (.int (1 : Int32)), .val (.int (1 : Int32)), .val (.int (1 : Int32)), .unset, .unset, .unset, .unset, .unset, .unset, .unset, .unset, .unset, .unset, .unset, .unset, .unset, .unset]) at_152 rfl rfl ?_
      refine C.iload (q := 156) at_154 rfl rfl ?_
      refine C.ifEq (q := 189) (q' := 159) at_156 (by decide) (by decide) rfl (fun h156 => ?_) (fun h156 => absurd (by decide) h156)
      refine C.iconst (q := 190) (z := (1 : Int32)) at_189 rfl rfl ?_
      refine C.istore (q := 192) (ls' := [.val (.int p0), .val (.int p1), .val (.int p2), .val (.int p3), .val (.int p4), .val (.int (Int32.ofNat n)), .val (.int (0 : Int32)), .val (.int (0 : Int32)), .val (.int (Int32.ofNat a)), .val (.int (Int32.ofNat b)), .val (.int (Int32.ofNat c)), .val (.int (Int32.ofNat d)), .val (.ref a71), .val (.ref a82), .val (.int (1 : Int32)), .val (.int (1 : Int32)), .val (.int (1 : Int32)), .val (.int (1 : Int32)), .unset, .unset, .unset, .unset, .unset, .unset, .unset, .unset, .unset, .unset, .unset, .unset, .unset]) at_190 rfl rfl ?_
      refine C.aload (q := 194) at_192 rfl rfl rfl ?_
      refine C.iload (q := 196) at_194 rfl rfl ?_
      refine C.callV (q := 199) 0 0 [.int (Int32.ofNat c)] [] at_196 (hw _ (List.mem_of_getElem? (i := 34) rfl)) (hw _ (List.mem_of_getElem? (i := 35) rfl)) (hw _ (List.mem_of_getElem? (i := 36) rfl)) (hw _ (List.mem_of_getElem? (i := 37) rfl)) (hw _ (List.mem_of_getElem? (i := 3) rfl)) (hw _ (List.mem_of_getElem? (i := 38) rfl)) (own_m1 l Z a0 n0 hw [] a71 a82 r0 r1 r2 r3 r4 r5 r6 (own_mk (own_split (own_mk (own_z n) (Int32.ofNat a))) (Int32.ofNat c)) (Int32.ofNat c) f3) (by decide) (by decide) (by decide) own_pd7 rfl rfl rfl rfl (Nat.le_of_eq rfl) (by decide) (by decide) rfl ?_
      rintro _ _ ⟨rfl, hE⟩
      rw [hE, gC2]
      show G 9 37 (own_HT a71 a82 r0 r1 r2 r3 r4 r5 r6 (own_mk (own_mk (own_split (own_mk (own_z n) (Int32.ofNat a))) (Int32.ofNat c)) (Int32.ofNat c))) 199 [.val (.int p0), .val (.int p1), .val (.int p2), .val (.int p3), .val (.int p4), .val (.int (Int32.ofNat n)), .val (.int (0 : Int32)), .val (.int (0 : Int32)), .val (.int (Int32.ofNat a)), .val (.int (Int32.ofNat b)), .val (.int (Int32.ofNat c)), .val (.int (Int32.ofNat d)), .val (.ref a71), .val (.ref a82), .val (.int (1 : Int32)), .val (.int (1 : Int32)), .val (.int (1 : Int32)), .val (.int (1 : Int32)), .unset, .unset, .unset, .unset, .unset, .unset, .unset, .unset, .unset, .unset, .unset, .unset, .unset] [.int (0 : Int32)]
      refine C.ifNe (q := 206) (q' := 202) at_199 (by decide) (by decide) rfl (fun h199 => ?_) (fun h199 => absurd (by decide) h199)
      refine C.iconst (q := 203) (z := (1 : Int32)) at_202 rfl rfl ?_
      refine C.goto (q := 207) at_203 (by decide) (by decide) ?_
      refine C.istore (q := 209) (ls' := [.val (.int p0), .val (.int p1), .val (.int p2), .val (.int p3), .val (.int p4), .val (.int (Int32.ofNat n)), .val (.int (0 : Int32)), .val (.int (0 : Int32)), .val (.int (Int32.ofNat a)), .val (.int (Int32.ofNat b)), .val (.int (Int32.ofNat c)), .val (.int (Int32.ofNat d)), .val (.ref a71), .val (.ref a82), .val (.int (1 : Int32)), .val (.int (1 : Int32)), .val (.int (1 : Int32)), .val (.int (1 : Int32)), .val (.int (1 : Int32)), .unset, .unset, .unset, .unset, .unset, .unset, .unset, .unset, .unset, .unset, .unset, .unset]) at_207 rfl rfl ?_
      refine C.aload (q := 211) at_209 rfl rfl rfl ?_
      refine C.aload (q := 213) at_211 rfl rfl rfl ?_
      refine C.callV (q := 216) 0 0 [.ref a82] [] at_213 (hw _ (List.mem_of_getElem? (i := 41) rfl)) (hw _ (List.mem_of_getElem? (i := 42) rfl)) (hw _ (List.mem_of_getElem? (i := 43) rfl)) (hw _ (List.mem_of_getElem? (i := 44) rfl)) (hw _ (List.mem_of_getElem? (i := 3) rfl)) (hw _ (List.mem_of_getElem? (i := 45) rfl)) (own_m8 l Z a0 n0 hw [] a71 a82 r0 r1 r2 r3 r4 r5 r6 (own_mk (own_mk (own_split (own_mk (own_z n) (Int32.ofNat a))) (Int32.ofNat c)) (Int32.ofNat c)) f4) (by decide) (by decide) (by decide) own_pd8 rfl rfl rfl rfl (Nat.le_of_eq rfl) (by decide) (by decide) rfl ?_
      rintro _ _ ⟨rfl, hE⟩
      rw [hE]
      show G 9 37 (own_HT a71 a82 r0 r1 r2 r3 r4 r5 r6 (own_split (own_mk (own_mk (own_split (own_mk (own_z n) (Int32.ofNat a))) (Int32.ofNat c)) (Int32.ofNat c)))) 216 [.val (.int p0), .val (.int p1), .val (.int p2), .val (.int p3), .val (.int p4), .val (.int (Int32.ofNat n)), .val (.int (0 : Int32)), .val (.int (0 : Int32)), .val (.int (Int32.ofNat a)), .val (.int (Int32.ofNat b)), .val (.int (Int32.ofNat c)), .val (.int (Int32.ofNat d)), .val (.ref a71), .val (.ref a82), .val (.int (1 : Int32)), .val (.int (1 : Int32)), .val (.int (1 : Int32)), .val (.int (1 : Int32)), .val (.int (1 : Int32)), .unset, .unset, .unset, .unset, .unset, .unset, .unset, .unset, .unset, .unset, .unset, .unset] []
      exact own_tl hw C a71 a82 r0 r1 r2 r3 r4 r5 r6 p0 p1 p2 p3 p4 (0 : Int32) (0 : Int32) n a b c d _ gT
    · refine C.iconst (q := 28) (z := (1 : Int32)) at_27 rfl rfl ?_
      refine C.goto (q := 32) at_28 (by decide) (by decide) ?_
      refine C.istore (q := 34) (ls' := [.val (.int p0), .val (.int p1), .val (.int p2), .val (.int p3), .val (.int p4), .val (.int (Int32.ofNat n)), .val (.int (0 : Int32)), .val (.int (1 : Int32)), .unset, .unset, .unset, .unset, .unset, .unset, .unset, .unset, .unset, .unset, .unset, .unset, .unset, .unset, .unset, .unset, .unset, .unset, .unset, .unset, .unset, .unset, .unset]) at_32 rfl rfl ?_
      refine C.iloadN (q := 35) at_34 rfl rfl ?_
      refine C.ldc (q := 37) (v := (2147483647 : Int32)) at_35 (hw _ (List.mem_of_getElem? (i := 0) rfl)) rfl ?_
      refine C.iand (q := 38) at_37 rfl ?_
      refine C.iload (q := 40) at_38 rfl rfl ?_
      refine C.irem (q := 41) at_40 (own_k0 hn) rfl ?_
      obtain ⟨a, ha, ea⟩ := own_ky p1 hn
      rw [ea]
      refine C.istore (q := 43) (ls' := [.val (.int p0), .val (.int p1), .val (.int p2), .val (.int p3), .val (.int p4), .val (.int (Int32.ofNat n)), .val (.int (0 : Int32)), .val (.int (1 : Int32)), .val (.int (Int32.ofNat a)), .unset, .unset, .unset, .unset, .unset, .unset, .unset, .unset, .unset, .unset, .unset, .unset, .unset, .unset, .unset, .unset, .unset, .unset, .unset, .unset, .unset, .unset]) at_41 rfl rfl ?_
      refine C.iloadN (q := 44) at_43 rfl rfl ?_
      refine C.ldc (q := 46) (v := (2147483647 : Int32)) at_44 (hw _ (List.mem_of_getElem? (i := 0) rfl)) rfl ?_
      refine C.iand (q := 47) at_46 rfl ?_
      refine C.iload (q := 49) at_47 rfl rfl ?_
      refine C.irem (q := 50) at_49 (own_k0 hn) rfl ?_
      obtain ⟨b, hb, eb⟩ := own_ky p2 hn
      rw [eb]
      refine C.istore (q := 52) (ls' := [.val (.int p0), .val (.int p1), .val (.int p2), .val (.int p3), .val (.int p4), .val (.int (Int32.ofNat n)), .val (.int (0 : Int32)), .val (.int (1 : Int32)), .val (.int (Int32.ofNat a)), .val (.int (Int32.ofNat b)), .unset, .unset, .unset, .unset, .unset, .unset, .unset, .unset, .unset, .unset, .unset, .unset, .unset, .unset, .unset, .unset, .unset, .unset, .unset, .unset, .unset]) at_50 rfl rfl ?_
      refine C.iloadN (q := 53) at_52 rfl rfl ?_
      refine C.ldc (q := 55) (v := (2147483647 : Int32)) at_53 (hw _ (List.mem_of_getElem? (i := 0) rfl)) rfl ?_
      refine C.iand (q := 56) at_55 rfl ?_
      refine C.iload (q := 58) at_56 rfl rfl ?_
      refine C.irem (q := 59) at_58 (own_k0 hn) rfl ?_
      obtain ⟨c, hc, ec⟩ := own_ky p3 hn
      rw [ec]
      refine C.istore (q := 61) (ls' := [.val (.int p0), .val (.int p1), .val (.int p2), .val (.int p3), .val (.int p4), .val (.int (Int32.ofNat n)), .val (.int (0 : Int32)), .val (.int (1 : Int32)), .val (.int (Int32.ofNat a)), .val (.int (Int32.ofNat b)), .val (.int (Int32.ofNat c)), .unset, .unset, .unset, .unset, .unset, .unset, .unset, .unset, .unset, .unset, .unset, .unset, .unset, .unset, .unset, .unset, .unset, .unset, .unset, .unset]) at_59 rfl rfl ?_
      refine C.iload (q := 63) at_61 rfl rfl ?_
      refine C.ldc (q := 65) (v := (2147483647 : Int32)) at_63 (hw _ (List.mem_of_getElem? (i := 0) rfl)) rfl ?_
      refine C.iand (q := 66) at_65 rfl ?_
      refine C.iload (q := 68) at_66 rfl rfl ?_
      refine C.irem (q := 69) at_68 (own_k0 hn) rfl ?_
      obtain ⟨d, hd, ed⟩ := own_ky p4 hn
      rw [ed]
      refine C.istore (q := 71) (ls' := [.val (.int p0), .val (.int p1), .val (.int p2), .val (.int p3), .val (.int p4), .val (.int (Int32.ofNat n)), .val (.int (0 : Int32)), .val (.int (1 : Int32)), .val (.int (Int32.ofNat a)), .val (.int (Int32.ofNat b)), .val (.int (Int32.ofNat c)), .val (.int (Int32.ofNat d)), .unset, .unset, .unset, .unset, .unset, .unset, .unset, .unset, .unset, .unset, .unset, .unset, .unset, .unset, .unset, .unset, .unset, .unset, .unset]) at_69 rfl rfl ?_
      refine C.newobj (q := 74) [("elements", "[I", (.array .int)), ("locations", "[I", (.array .int)), ("blocks", "[I", (.array .int)), ("starts", "[I", (.array .int)), ("ends", "[I", (.array .int)), ("markedEnds", "[I", (.array .int)), ("touched", "[I", (.array .int)), ("blockCount", "I", .int), ("touchedCount", "I", .int)] (fs := [("elements", "[I", .null), ("locations", "[I", .null), ("blocks", "[I", .null), ("starts", "[I", .null), ("ends", "[I", .null), ("markedEnds", "[I", .null), ("touched", "[I", .null), ("blockCount", "I", .int (0 : Int32)), ("touchedCount", "I", .int (0 : Int32))]) (k' := 1) (n' := 9) at_71 (hw _ (List.mem_of_getElem? (i := 1) rfl)) (hw _ (List.mem_of_getElem? (i := 2) rfl)) (hw _ (List.mem_of_getElem? (i := 3) rfl)) ⟨⟨Or.inr (hw _ (List.mem_of_getElem? (i := 12) rfl)), by decide⟩, ⟨⟨Or.inr (hw _ (List.mem_of_getElem? (i := 14) rfl)), by decide⟩, ⟨⟨Or.inr (hw _ (List.mem_of_getElem? (i := 16) rfl)), by decide⟩, ⟨⟨Or.inr (hw _ (List.mem_of_getElem? (i := 18) rfl)), by decide⟩, ⟨⟨Or.inr (hw _ (List.mem_of_getElem? (i := 20) rfl)), by decide⟩, ⟨⟨Or.inr (hw _ (List.mem_of_getElem? (i := 22) rfl)), by decide⟩, ⟨⟨Or.inr (hw _ (List.mem_of_getElem? (i := 24) rfl)), by decide⟩, ⟨⟨Or.inl (hw _ (List.mem_of_getElem? (i := 26) rfl)), by decide⟩, ⟨⟨Or.inl (hw _ (List.mem_of_getElem? (i := 40) rfl)), by decide⟩, trivial⟩⟩⟩⟩⟩⟩⟩⟩⟩ (by decide) (by decide) (by decide) rfl rfl rfl rfl (fun a71 => ?_)
      show G 1 9 [(a71, .inr ("com/example/terms_to_transitions/termstotransitions/equivalence/RefinablePartition", [("elements", "[I", .null), ("locations", "[I", .null), ("blocks", "[I", .null), ("starts", "[I", .null), ("ends", "[I", .null), ("markedEnds", "[I", .null), ("touched", "[I", .null), ("blockCount", "I", .int (0 : Int32)), ("touchedCount", "I", .int (0 : Int32))]))] 74 [.val (.int p0), .val (.int p1), .val (.int p2), .val (.int p3), .val (.int p4), .val (.int (Int32.ofNat n)), .val (.int (0 : Int32)), .val (.int (1 : Int32)), .val (.int (Int32.ofNat a)), .val (.int (Int32.ofNat b)), .val (.int (Int32.ofNat c)), .val (.int (Int32.ofNat d)), .unset, .unset, .unset, .unset, .unset, .unset, .unset, .unset, .unset, .unset, .unset, .unset, .unset, .unset, .unset, .unset, .unset, .unset, .unset] [.ref a71]
      refine C.dup (q := 75) at_74 rfl rfl ?_
      refine C.iload (q := 77) at_75 rfl rfl ?_
      refine C.callI (q := 80) 1 a71 [.int (Int32.ofNat n)] [.ref a71] at_77 (hw _ (List.mem_of_getElem? (i := 4) rfl)) (hw _ (List.mem_of_getElem? (i := 5) rfl)) (hw _ (List.mem_of_getElem? (i := 3) rfl)) (hw _ (List.mem_of_getElem? (i := 6) rfl)) (own_c9 l Z a0 n0 hw [] a71 n hn) rfl (by decide) (by decide) (by decide) own_pd5 rfl rfl rfl (Nat.le_of_eq rfl) (by decide) (by decide) rfl ?_
      rintro _ _ ⟨rfl, r0, r1, r2, r3, r4, r5, r6, rfl⟩
      show G 8 37 [(a71, .inr ("com/example/terms_to_transitions/termstotransitions/equivalence/RefinablePartition", [("elements", "[I", .ref r0), ("locations", "[I", .ref r1), ("blocks", "[I", .ref r2), ("starts", "[I", .ref r3), ("ends", "[I", .ref r4), ("markedEnds", "[I", .ref r5), ("touched", "[I", .ref r6), ("blockCount", "I", .int ((own_z n).2.2.2.2.2.2.2.2)), ("touchedCount", "I", .int ((own_z n).2.2.2.2.2.2.2.1))])), (r0, .inl (.int, (own_vl (own_z n).1))), (r1, .inl (.int, (own_vl (own_z n).2.1))), (r2, .inl (.int, (own_vl (own_z n).2.2.1))), (r3, .inl (.int, (own_vl (own_z n).2.2.2.1))), (r4, .inl (.int, (own_vl (own_z n).2.2.2.2.1))), (r5, .inl (.int, (own_vl (own_z n).2.2.2.2.2.1))), (r6, .inl (.int, (own_vl (own_z n).2.2.2.2.2.2.1)))] 80 [.val (.int p0), .val (.int p1), .val (.int p2), .val (.int p3), .val (.int p4), .val (.int (Int32.ofNat n)), .val (.int (0 : Int32)), .val (.int (1 : Int32)), .val (.int (Int32.ofNat a)), .val (.int (Int32.ofNat b)), .val (.int (Int32.ofNat c)), .val (.int (Int32.ofNat d)), .unset, .unset, .unset, .unset, .unset, .unset, .unset, .unset, .unset, .unset, .unset, .unset, .unset, .unset, .unset, .unset, .unset, .unset, .unset] [.ref a71]
      refine C.astore (q := 82) (ls' := [.val (.int p0), .val (.int p1), .val (.int p2), .val (.int p3), .val (.int p4), .val (.int (Int32.ofNat n)), .val (.int (0 : Int32)), .val (.int (1 : Int32)), .val (.int (Int32.ofNat a)), .val (.int (Int32.ofNat b)), .val (.int (Int32.ofNat c)), .val (.int (Int32.ofNat d)), .val (.ref a71), .unset, .unset, .unset, .unset, .unset, .unset, .unset, .unset, .unset, .unset, .unset, .unset, .unset, .unset, .unset, .unset, .unset, .unset]) at_80 rfl rfl rfl ?_
      refine C.newobj (q := 85) [] (fs := []) (k' := 9) (n' := 37) at_82 (hw _ (List.mem_of_getElem? (i := 27) rfl)) (hw _ (List.mem_of_getElem? (i := 28) rfl)) (hw _ (List.mem_of_getElem? (i := 29) rfl)) trivial (by decide) (by decide) (by decide) rfl rfl rfl rfl (fun a82 => ?_)
      show G 9 37 [(a71, .inr ("com/example/terms_to_transitions/termstotransitions/equivalence/RefinablePartition", [("elements", "[I", .ref r0), ("locations", "[I", .ref r1), ("blocks", "[I", .ref r2), ("starts", "[I", .ref r3), ("ends", "[I", .ref r4), ("markedEnds", "[I", .ref r5), ("touched", "[I", .ref r6), ("blockCount", "I", .int ((own_z n).2.2.2.2.2.2.2.2)), ("touchedCount", "I", .int ((own_z n).2.2.2.2.2.2.2.1))])), (r0, .inl (.int, (own_vl (own_z n).1))), (r1, .inl (.int, (own_vl (own_z n).2.1))), (r2, .inl (.int, (own_vl (own_z n).2.2.1))), (r3, .inl (.int, (own_vl (own_z n).2.2.2.1))), (r4, .inl (.int, (own_vl (own_z n).2.2.2.2.1))), (r5, .inl (.int, (own_vl (own_z n).2.2.2.2.2.1))), (r6, .inl (.int, (own_vl (own_z n).2.2.2.2.2.2.1))), (a82, .inr ("com/example/terms_to_transitions/termstotransitions/equivalence/RefinablePartitionMarkPinLaw", []))] 85 [.val (.int p0), .val (.int p1), .val (.int p2), .val (.int p3), .val (.int p4), .val (.int (Int32.ofNat n)), .val (.int (0 : Int32)), .val (.int (1 : Int32)), .val (.int (Int32.ofNat a)), .val (.int (Int32.ofNat b)), .val (.int (Int32.ofNat c)), .val (.int (Int32.ofNat d)), .val (.ref a71), .unset, .unset, .unset, .unset, .unset, .unset, .unset, .unset, .unset, .unset, .unset, .unset, .unset, .unset, .unset, .unset, .unset, .unset] [.ref a82]
      show G 9 37 (own_HT a71 a82 r0 r1 r2 r3 r4 r5 r6 (own_z n)) 85 [.val (.int p0), .val (.int p1), .val (.int p2), .val (.int p3), .val (.int p4), .val (.int (Int32.ofNat n)), .val (.int (0 : Int32)), .val (.int (1 : Int32)), .val (.int (Int32.ofNat a)), .val (.int (Int32.ofNat b)), .val (.int (Int32.ofNat c)), .val (.int (Int32.ofNat d)), .val (.ref a71), .unset, .unset, .unset, .unset, .unset, .unset, .unset, .unset, .unset, .unset, .unset, .unset, .unset, .unset, .unset, .unset, .unset, .unset] [.ref a82]
      obtain ⟨f0, f1, f2, f3, f4, f5, gA, gC, gD, gC2, gT⟩ := own_all01 hn.1 hn.2 ha hb hc hd
      refine C.dup (q := 86) at_85 rfl rfl ?_
      refine C.callI (q := 89) 1 a82 [] [.ref a82] at_86 (hw _ (List.mem_of_getElem? (i := 30) rfl)) (hw _ (List.mem_of_getElem? (i := 31) rfl)) (hw _ (List.mem_of_getElem? (i := 29) rfl)) (hw _ (List.mem_of_getElem? (i := 32) rfl)) (own_c7 l Z a0 n0 hw [] a82 (own_HT a71 a82 r0 r1 r2 r3 r4 r5 r6 (own_z n))) rfl (by decide) (by decide) (by decide) own_pd6 rfl rfl rfl (Nat.le_of_eq rfl) (by decide) (by decide) rfl ?_
      rintro _ _ ⟨rfl, hE⟩
      rw [hE]
      show G 9 37 (own_HT a71 a82 r0 r1 r2 r3 r4 r5 r6 (own_z n)) 89 [.val (.int p0), .val (.int p1), .val (.int p2), .val (.int p3), .val (.int p4), .val (.int (Int32.ofNat n)), .val (.int (0 : Int32)), .val (.int (1 : Int32)), .val (.int (Int32.ofNat a)), .val (.int (Int32.ofNat b)), .val (.int (Int32.ofNat c)), .val (.int (Int32.ofNat d)), .val (.ref a71), .unset, .unset, .unset, .unset, .unset, .unset, .unset, .unset, .unset, .unset, .unset, .unset, .unset, .unset, .unset, .unset, .unset, .unset] [.ref a82]
      refine C.astore (q := 91) (ls' := [.val (.int p0), .val (.int p1), .val (.int p2), .val (.int p3), .val (.int p4), .val (.int (Int32.ofNat n)), .val (.int (0 : Int32)), .val (.int (1 : Int32)), .val (.int (Int32.ofNat a)), .val (.int (Int32.ofNat b)), .val (.int (Int32.ofNat c)), .val (.int (Int32.ofNat d)), .val (.ref a71), .val (.ref a82), .unset, .unset, .unset, .unset, .unset, .unset, .unset, .unset, .unset, .unset, .unset, .unset, .unset, .unset, .unset, .unset, .unset]) at_89 rfl rfl rfl ?_
      refine C.aload (q := 93) at_91 rfl rfl rfl ?_
      refine C.iload (q := 95) at_93 rfl rfl ?_
      refine C.callV (q := 98) 0 0 [.int (Int32.ofNat a)] [] at_95 (hw _ (List.mem_of_getElem? (i := 34) rfl)) (hw _ (List.mem_of_getElem? (i := 35) rfl)) (hw _ (List.mem_of_getElem? (i := 36) rfl)) (hw _ (List.mem_of_getElem? (i := 37) rfl)) (hw _ (List.mem_of_getElem? (i := 3) rfl)) (hw _ (List.mem_of_getElem? (i := 38) rfl)) (own_m1 l Z a0 n0 hw [] a71 a82 r0 r1 r2 r3 r4 r5 r6 (own_z n) (Int32.ofNat a) f0) (by decide) (by decide) (by decide) own_pd7 rfl rfl rfl rfl (Nat.le_of_eq rfl) (by decide) (by decide) rfl ?_
      rintro _ _ ⟨rfl, hE⟩
      rw [hE, gA]
      show G 9 37 (own_HT a71 a82 r0 r1 r2 r3 r4 r5 r6 (own_mk (own_z n) (Int32.ofNat a))) 98 [.val (.int p0), .val (.int p1), .val (.int p2), .val (.int p3), .val (.int p4), .val (.int (Int32.ofNat n)), .val (.int (0 : Int32)), .val (.int (1 : Int32)), .val (.int (Int32.ofNat a)), .val (.int (Int32.ofNat b)), .val (.int (Int32.ofNat c)), .val (.int (Int32.ofNat d)), .val (.ref a71), .val (.ref a82), .unset, .unset, .unset, .unset, .unset, .unset, .unset, .unset, .unset, .unset, .unset, .unset, .unset, .unset, .unset, .unset, .unset] [.int (1 : Int32)]
      refine C.istore (q := 100) (ls' := [.val (.int p0), .val (.int p1), .val (.int p2), .val (.int p3), .val (.int p4), .val (.int (Int32.ofNat n)), .val (.int (0 : Int32)), .val (.int (1 : Int32)), .val (.int (Int32.ofNat a)), .val (.int (Int32.ofNat b)), .val (.int (Int32.ofNat c)), .val (.int (Int32.ofNat d)), .val (.ref a71), .val (.ref a82), .val (.int (1 : Int32)), .unset, .unset, .unset, .unset, .unset, .unset, .unset, .unset, .unset, .unset, .unset, .unset, .unset, .unset, .unset, .unset]) at_98 rfl rfl ?_
      refine C.iload (q := 102) at_100 rfl rfl ?_
      refine C.ifEq (q := 135) (q' := 105) at_102 (by decide) (by decide) rfl (fun h102 => ?_) (fun h102 => absurd (by decide) h102)
      refine C.iconst (q := 136) (z := (1 : Int32)) at_135 rfl rfl ?_
      refine C.istore (q := 138) (ls' := [.val (.int p0), .val (.int p1), .val (.int p2), .val (.int p3), .val (.int p4), .val (.int (Int32.ofNat n)), .val (.int (0 : Int32)), .val (.int (1 : Int32)), .val (.int (Int32.ofNat a)), .val (.int (Int32.ofNat b)), .val (.int (Int32.ofNat c)), .val (.int (Int32.ofNat d)), .val (.ref a71), .val (.ref a82), .val (.int (1 : Int32)), .val (.int (1 : Int32)), .unset, .unset, .unset, .unset, .unset, .unset, .unset, .unset, .unset, .unset, .unset, .unset, .unset, .unset, .unset]) at_136 rfl rfl ?_
      refine C.aload (q := 140) at_138 rfl rfl rfl ?_
      refine C.aload (q := 142) at_140 rfl rfl rfl ?_
      refine C.callV (q := 145) 0 0 [.ref a82] [] at_142 (hw _ (List.mem_of_getElem? (i := 41) rfl)) (hw _ (List.mem_of_getElem? (i := 42) rfl)) (hw _ (List.mem_of_getElem? (i := 43) rfl)) (hw _ (List.mem_of_getElem? (i := 44) rfl)) (hw _ (List.mem_of_getElem? (i := 3) rfl)) (hw _ (List.mem_of_getElem? (i := 45) rfl)) (own_m8 l Z a0 n0 hw [] a71 a82 r0 r1 r2 r3 r4 r5 r6 (own_mk (own_z n) (Int32.ofNat a)) f1) (by decide) (by decide) (by decide) own_pd8 rfl rfl rfl rfl (Nat.le_of_eq rfl) (by decide) (by decide) rfl ?_
      rintro _ _ ⟨rfl, hE⟩
      rw [hE]
      show G 9 37 (own_HT a71 a82 r0 r1 r2 r3 r4 r5 r6 (own_split (own_mk (own_z n) (Int32.ofNat a)))) 145 [.val (.int p0), .val (.int p1), .val (.int p2), .val (.int p3), .val (.int p4), .val (.int (Int32.ofNat n)), .val (.int (0 : Int32)), .val (.int (1 : Int32)), .val (.int (Int32.ofNat a)), .val (.int (Int32.ofNat b)), .val (.int (Int32.ofNat c)), .val (.int (Int32.ofNat d)), .val (.ref a71), .val (.ref a82), .val (.int (1 : Int32)), .val (.int (1 : Int32)), .unset, .unset, .unset, .unset, .unset, .unset, .unset, .unset, .unset, .unset, .unset, .unset, .unset, .unset, .unset] []
      refine C.aload (q := 147) at_145 rfl rfl rfl ?_
      refine C.iload (q := 149) at_147 rfl rfl ?_
      refine C.callV (q := 152) 0 0 [.int (Int32.ofNat c)] [] at_149 (hw _ (List.mem_of_getElem? (i := 34) rfl)) (hw _ (List.mem_of_getElem? (i := 35) rfl)) (hw _ (List.mem_of_getElem? (i := 36) rfl)) (hw _ (List.mem_of_getElem? (i := 37) rfl)) (hw _ (List.mem_of_getElem? (i := 3) rfl)) (hw _ (List.mem_of_getElem? (i := 38) rfl)) (own_m1 l Z a0 n0 hw [] a71 a82 r0 r1 r2 r3 r4 r5 r6 (own_split (own_mk (own_z n) (Int32.ofNat a))) (Int32.ofNat c) f2) (by decide) (by decide) (by decide) own_pd7 rfl rfl rfl rfl (Nat.le_of_eq rfl) (by decide) (by decide) rfl ?_
      rintro _ _ ⟨rfl, hE⟩
      rw [hE, gC]
      show G 9 37 (own_HT a71 a82 r0 r1 r2 r3 r4 r5 r6 (own_mk (own_split (own_mk (own_z n) (Int32.ofNat a))) (Int32.ofNat c))) 152 [.val (.int p0), .val (.int p1), .val (.int p2), .val (.int p3), .val (.int p4), .val (.int (Int32.ofNat n)), .val (.int (0 : Int32)), .val (.int (1 : Int32)), .val (.int (Int32.ofNat a)), .val (.int (Int32.ofNat b)), .val (.int (Int32.ofNat c)), .val (.int (Int32.ofNat d)), .val (.ref a71), .val (.ref a82), .val (.int (1 : Int32)), .val (.int (1 : Int32)), .unset, .unset, .unset, .unset, .unset, .unset, .unset, .unset, .unset, .unset, .unset, .unset, .unset, .unset, .unset] [.int (1 : Int32)]
      refine C.istore (q := 154) (ls' := [.val (.int p0), .val (.int p1), .val (.int p2), .val (.int p3), .val (.int p4), .val (.int (Int32.ofNat n)), .val (.int (0 : Int32)), .val (.int (1 : Int32)), .val (.int (Int32.ofNat a)), .val (.int (Int32.ofNat b)), .val (.int (Int32.ofNat c)), .val (.int (Int32.ofNat d)), .val (.ref a71), .val (.ref a82), .val (.int (1 : Int32)), .val (.int (1 : Int32)), .val (.int (1 : Int32)), .unset, .unset, .unset, .unset, .unset, .unset, .unset, .unset, .unset, .unset, .unset, .unset, .unset, .unset]) at_152 rfl rfl ?_
      refine C.iload (q := 156) at_154 rfl rfl ?_
      refine C.ifEq (q := 189) (q' := 159) at_156 (by decide) (by decide) rfl (fun h156 => absurd h156 (by decide)) (fun h156 => ?_)
      refine C.aload (q := 161) at_159 rfl rfl rfl ?_
      refine C.iload (q := 163) at_161 rfl rfl ?_
      refine C.callV (q := 166) 0 0 [.int (Int32.ofNat d)] [] at_163 (hw _ (List.mem_of_getElem? (i := 34) rfl)) (hw _ (List.mem_of_getElem? (i := 35) rfl)) (hw _ (List.mem_of_getElem? (i := 36) rfl)) (hw _ (List.mem_of_getElem? (i := 37) rfl)) (hw _ (List.mem_of_getElem? (i := 3) rfl)) (hw _ (List.mem_of_getElem? (i := 38) rfl)) (own_m1 l Z a0 n0 hw [] a71 a82 r0 r1 r2 r3 r4 r5 r6 (own_mk (own_split (own_mk (own_z n) (Int32.ofNat a))) (Int32.ofNat c)) (Int32.ofNat d) f3) (by decide) (by decide) (by decide) own_pd7 rfl rfl rfl rfl (Nat.le_of_eq rfl) (by decide) (by decide) rfl ?_
      rintro _ _ ⟨rfl, hE⟩
      rw [hE, gD]
      show G 9 37 (own_HT a71 a82 r0 r1 r2 r3 r4 r5 r6 (own_mk (own_mk (own_split (own_mk (own_z n) (Int32.ofNat a))) (Int32.ofNat c)) (Int32.ofNat d))) 166 [.val (.int p0), .val (.int p1), .val (.int p2), .val (.int p3), .val (.int p4), .val (.int (Int32.ofNat n)), .val (.int (0 : Int32)), .val (.int (1 : Int32)), .val (.int (Int32.ofNat a)), .val (.int (Int32.ofNat b)), .val (.int (Int32.ofNat c)), .val (.int (Int32.ofNat d)), .val (.ref a71), .val (.ref a82), .val (.int (1 : Int32)), .val (.int (1 : Int32)), .val (.int (1 : Int32)), .unset, .unset, .unset, .unset, .unset, .unset, .unset, .unset, .unset, .unset, .unset, .unset, .unset, .unset] [.int (if (Int32.ofNat d) = (Int32.ofNat c) then (0 : Int32) else (1 : Int32))]
      refine C.iload (q := 168) at_166 rfl rfl ?_
      refine C.iload (q := 170) at_168 rfl rfl ?_
      have J170 : ∀ (zd : Int32), zd = (if (Int32.ofNat d) = (Int32.ofNat c) then (0 : Int32) else (1 : Int32)) → G 9 37 (own_HT a71 a82 r0 r1 r2 r3 r4 r5 r6 (own_mk (own_mk (own_split (own_mk (own_z n) (Int32.ofNat a))) (Int32.ofNat c)) (Int32.ofNat d))) 178 [.val (.int p0), .val (.int p1), .val (.int p2), .val (.int p3), .val (.int p4), .val (.int (Int32.ofNat n)), .val (.int (0 : Int32)), .val (.int (1 : Int32)), .val (.int (Int32.ofNat a)), .val (.int (Int32.ofNat b)), .val (.int (Int32.ofNat c)), .val (.int (Int32.ofNat d)), .val (.ref a71), .val (.ref a82), .val (.int (1 : Int32)), .val (.int (1 : Int32)), .val (.int (1 : Int32)), .unset, .unset, .unset, .unset, .unset, .unset, .unset, .unset, .unset, .unset, .unset, .unset, .unset, .unset] [.int zd, .int (if (Int32.ofNat d) = (Int32.ofNat c) then (0 : Int32) else (1 : Int32))] := by
        intro zd hzd
        refine C.icmpNe (q := 185) (q' := 181) at_178 (by decide) (by decide) rfl (fun h178 => ?_) (fun h178 => absurd (hzd.symm) h178)
        refine C.iconst (q := 182) (z := (1 : Int32)) at_181 rfl rfl ?_
        refine C.goto (q := 190) at_182 (by decide) (by decide) ?_
        refine C.istore (q := 192) (ls' := [.val (.int p0), .val (.int p1), .val (.int p2), .val (.int p3), .val (.int p4), .val (.int (Int32.ofNat n)), .val (.int (0 : Int32)), .val (.int (1 : Int32)), .val (.int (Int32.ofNat a)), .val (.int (Int32.ofNat b)), .val (.int (Int32.ofNat c)), .val (.int (Int32.ofNat d)), .val (.ref a71), .val (.ref a82), .val (.int (1 : Int32)), .val (.int (1 : Int32)), .val (.int (1 : Int32)), .val (.int (1 : Int32)), .unset, .unset, .unset, .unset, .unset, .unset, .unset, .unset, .unset, .unset, .unset, .unset, .unset]) at_190 rfl rfl ?_
        refine C.aload (q := 194) at_192 rfl rfl rfl ?_
        refine C.iload (q := 196) at_194 rfl rfl ?_
        refine C.callV (q := 199) 0 0 [.int (Int32.ofNat c)] [] at_196 (hw _ (List.mem_of_getElem? (i := 34) rfl)) (hw _ (List.mem_of_getElem? (i := 35) rfl)) (hw _ (List.mem_of_getElem? (i := 36) rfl)) (hw _ (List.mem_of_getElem? (i := 37) rfl)) (hw _ (List.mem_of_getElem? (i := 3) rfl)) (hw _ (List.mem_of_getElem? (i := 38) rfl)) (own_m1 l Z a0 n0 hw [] a71 a82 r0 r1 r2 r3 r4 r5 r6 (own_mk (own_mk (own_split (own_mk (own_z n) (Int32.ofNat a))) (Int32.ofNat c)) (Int32.ofNat d)) (Int32.ofNat c) f4) (by decide) (by decide) (by decide) own_pd7 rfl rfl rfl rfl (Nat.le_of_eq rfl) (by decide) (by decide) rfl ?_
        rintro _ _ ⟨rfl, hE⟩
        rw [hE, gC2]
        show G 9 37 (own_HT a71 a82 r0 r1 r2 r3 r4 r5 r6 (own_mk (own_mk (own_mk (own_split (own_mk (own_z n) (Int32.ofNat a))) (Int32.ofNat c)) (Int32.ofNat d)) (Int32.ofNat c))) 199 [.val (.int p0), .val (.int p1), .val (.int p2), .val (.int p3), .val (.int p4), .val (.int (Int32.ofNat n)), .val (.int (0 : Int32)), .val (.int (1 : Int32)), .val (.int (Int32.ofNat a)), .val (.int (Int32.ofNat b)), .val (.int (Int32.ofNat c)), .val (.int (Int32.ofNat d)), .val (.ref a71), .val (.ref a82), .val (.int (1 : Int32)), .val (.int (1 : Int32)), .val (.int (1 : Int32)), .val (.int (1 : Int32)), .unset, .unset, .unset, .unset, .unset, .unset, .unset, .unset, .unset, .unset, .unset, .unset, .unset] [.int (0 : Int32)]
        refine C.ifNe (q := 206) (q' := 202) at_199 (by decide) (by decide) rfl (fun h199 => ?_) (fun h199 => absurd (by decide) h199)
        refine C.iconst (q := 203) (z := (1 : Int32)) at_202 rfl rfl ?_
        refine C.goto (q := 207) at_203 (by decide) (by decide) ?_
        refine C.istore (q := 209) (ls' := [.val (.int p0), .val (.int p1), .val (.int p2), .val (.int p3), .val (.int p4), .val (.int (Int32.ofNat n)), .val (.int (0 : Int32)), .val (.int (1 : Int32)), .val (.int (Int32.ofNat a)), .val (.int (Int32.ofNat b)), .val (.int (Int32.ofNat c)), .val (.int (Int32.ofNat d)), .val (.ref a71), .val (.ref a82), .val (.int (1 : Int32)), .val (.int (1 : Int32)), .val (.int (1 : Int32)), .val (.int (1 : Int32)), .val (.int (1 : Int32)), .unset, .unset, .unset, .unset, .unset, .unset, .unset, .unset, .unset, .unset, .unset, .unset]) at_207 rfl rfl ?_
        refine C.aload (q := 211) at_209 rfl rfl rfl ?_
        refine C.aload (q := 213) at_211 rfl rfl rfl ?_
        refine C.callV (q := 216) 0 0 [.ref a82] [] at_213 (hw _ (List.mem_of_getElem? (i := 41) rfl)) (hw _ (List.mem_of_getElem? (i := 42) rfl)) (hw _ (List.mem_of_getElem? (i := 43) rfl)) (hw _ (List.mem_of_getElem? (i := 44) rfl)) (hw _ (List.mem_of_getElem? (i := 3) rfl)) (hw _ (List.mem_of_getElem? (i := 45) rfl)) (own_m8 l Z a0 n0 hw [] a71 a82 r0 r1 r2 r3 r4 r5 r6 (own_mk (own_mk (own_mk (own_split (own_mk (own_z n) (Int32.ofNat a))) (Int32.ofNat c)) (Int32.ofNat d)) (Int32.ofNat c)) f5) (by decide) (by decide) (by decide) own_pd8 rfl rfl rfl rfl (Nat.le_of_eq rfl) (by decide) (by decide) rfl ?_
        rintro _ _ ⟨rfl, hE⟩
        rw [hE]
        show G 9 37 (own_HT a71 a82 r0 r1 r2 r3 r4 r5 r6 (own_split (own_mk (own_mk (own_mk (own_split (own_mk (own_z n) (Int32.ofNat a))) (Int32.ofNat c)) (Int32.ofNat d)) (Int32.ofNat c)))) 216 [.val (.int p0), .val (.int p1), .val (.int p2), .val (.int p3), .val (.int p4), .val (.int (Int32.ofNat n)), .val (.int (0 : Int32)), .val (.int (1 : Int32)), .val (.int (Int32.ofNat a)), .val (.int (Int32.ofNat b)), .val (.int (Int32.ofNat c)), .val (.int (Int32.ofNat d)), .val (.ref a71), .val (.ref a82), .val (.int (1 : Int32)), .val (.int (1 : Int32)), .val (.int (1 : Int32)), .val (.int (1 : Int32)), .val (.int (1 : Int32)), .unset, .unset, .unset, .unset, .unset, .unset, .unset, .unset, .unset, .unset, .unset, .unset] []
        exact own_tl hw C a71 a82 r0 r1 r2 r3 r4 r5 r6 p0 p1 p2 p3 p4 (0 : Int32) (1 : Int32) n a b c d _ gT
      refine C.icmpEq (q := 177) (q' := 173) at_170 (by decide) (by decide) rfl (fun h170 => ?_) (fun h170 => ?_)
      · refine C.iconst (q := 178) (z := (0 : Int32)) at_177 rfl rfl ?_
        exact J170 _ (if_pos h170).symm
      · refine C.iconst (q := 174) (z := (1 : Int32)) at_173 rfl rfl ?_
        refine C.goto (q := 178) at_174 (by decide) (by decide) ?_
        exact J170 _ (if_neg h170).symm
  · refine C.iconst (q := 14) (z := (1 : Int32)) at_13 rfl rfl ?_
    refine C.goto (q := 18) at_14 (by decide) (by decide) ?_
    refine C.istore (q := 20) (ls' := [.val (.int p0), .val (.int p1), .val (.int p2), .val (.int p3), .val (.int p4), .val (.int (Int32.ofNat n)), .val (.int (1 : Int32)), .unset, .unset, .unset, .unset, .unset, .unset, .unset, .unset, .unset, .unset, .unset, .unset, .unset, .unset, .unset, .unset, .unset, .unset, .unset, .unset, .unset, .unset, .unset, .unset]) at_18 rfl rfl ?_
    refine C.iloadN (q := 21) at_20 rfl rfl ?_
    refine C.bipush (q := 23) (z := (8 : Int32)) at_21 rfl rfl ?_
    refine C.iand (q := 24) at_23 rfl ?_
    refine C.ifEq (q := 31) (q' := 27) at_24 (by decide) (by decide) rfl (fun h24 => ?_) (fun h24 => ?_)
    · refine C.iconst (q := 32) (z := (0 : Int32)) at_31 rfl rfl ?_
      refine C.istore (q := 34) (ls' := [.val (.int p0), .val (.int p1), .val (.int p2), .val (.int p3), .val (.int p4), .val (.int (Int32.ofNat n)), .val (.int (1 : Int32)), .val (.int (0 : Int32)), .unset, .unset, .unset, .unset, .unset, .unset, .unset, .unset, .unset, .unset, .unset, .unset, .unset, .unset, .unset, .unset, .unset, .unset, .unset, .unset, .unset, .unset, .unset]) at_32 rfl rfl ?_
      refine C.iloadN (q := 35) at_34 rfl rfl ?_
      refine C.ldc (q := 37) (v := (2147483647 : Int32)) at_35 (hw _ (List.mem_of_getElem? (i := 0) rfl)) rfl ?_
      refine C.iand (q := 38) at_37 rfl ?_
      refine C.iload (q := 40) at_38 rfl rfl ?_
      refine C.irem (q := 41) at_40 (own_k0 hn) rfl ?_
      obtain ⟨a, ha, ea⟩ := own_ky p1 hn
      rw [ea]
      refine C.istore (q := 43) (ls' := [.val (.int p0), .val (.int p1), .val (.int p2), .val (.int p3), .val (.int p4), .val (.int (Int32.ofNat n)), .val (.int (1 : Int32)), .val (.int (0 : Int32)), .val (.int (Int32.ofNat a)), .unset, .unset, .unset, .unset, .unset, .unset, .unset, .unset, .unset, .unset, .unset, .unset, .unset, .unset, .unset, .unset, .unset, .unset, .unset, .unset, .unset, .unset]) at_41 rfl rfl ?_
      refine C.iloadN (q := 44) at_43 rfl rfl ?_
      refine C.ldc (q := 46) (v := (2147483647 : Int32)) at_44 (hw _ (List.mem_of_getElem? (i := 0) rfl)) rfl ?_
      refine C.iand (q := 47) at_46 rfl ?_
      refine C.iload (q := 49) at_47 rfl rfl ?_
      refine C.irem (q := 50) at_49 (own_k0 hn) rfl ?_
      obtain ⟨b, hb, eb⟩ := own_ky p2 hn
      rw [eb]
      refine C.istore (q := 52) (ls' := [.val (.int p0), .val (.int p1), .val (.int p2), .val (.int p3), .val (.int p4), .val (.int (Int32.ofNat n)), .val (.int (1 : Int32)), .val (.int (0 : Int32)), .val (.int (Int32.ofNat a)), .val (.int (Int32.ofNat b)), .unset, .unset, .unset, .unset, .unset, .unset, .unset, .unset, .unset, .unset, .unset, .unset, .unset, .unset, .unset, .unset, .unset, .unset, .unset, .unset, .unset]) at_50 rfl rfl ?_
      refine C.iloadN (q := 53) at_52 rfl rfl ?_
      refine C.ldc (q := 55) (v := (2147483647 : Int32)) at_53 (hw _ (List.mem_of_getElem? (i := 0) rfl)) rfl ?_
      refine C.iand (q := 56) at_55 rfl ?_
      refine C.iload (q := 58) at_56 rfl rfl ?_
      refine C.irem (q := 59) at_58 (own_k0 hn) rfl ?_
      obtain ⟨c, hc, ec⟩ := own_ky p3 hn
      rw [ec]
      refine C.istore (q := 61) (ls' := [.val (.int p0), .val (.int p1), .val (.int p2), .val (.int p3), .val (.int p4), .val (.int (Int32.ofNat n)), .val (.int (1 : Int32)), .val (.int (0 : Int32)), .val (.int (Int32.ofNat a)), .val (.int (Int32.ofNat b)), .val (.int (Int32.ofNat c)), .unset, .unset, .unset, .unset, .unset, .unset, .unset, .unset, .unset, .unset, .unset, .unset, .unset, .unset, .unset, .unset, .unset, .unset, .unset, .unset]) at_59 rfl rfl ?_
      refine C.iload (q := 63) at_61 rfl rfl ?_
      refine C.ldc (q := 65) (v := (2147483647 : Int32)) at_63 (hw _ (List.mem_of_getElem? (i := 0) rfl)) rfl ?_
      refine C.iand (q := 66) at_65 rfl ?_
      refine C.iload (q := 68) at_66 rfl rfl ?_
      refine C.irem (q := 69) at_68 (own_k0 hn) rfl ?_
      obtain ⟨d, hd, ed⟩ := own_ky p4 hn
      rw [ed]
      refine C.istore (q := 71) (ls' := [.val (.int p0), .val (.int p1), .val (.int p2), .val (.int p3), .val (.int p4), .val (.int (Int32.ofNat n)), .val (.int (1 : Int32)), .val (.int (0 : Int32)), .val (.int (Int32.ofNat a)), .val (.int (Int32.ofNat b)), .val (.int (Int32.ofNat c)), .val (.int (Int32.ofNat d)), .unset, .unset, .unset, .unset, .unset, .unset, .unset, .unset, .unset, .unset, .unset, .unset, .unset, .unset, .unset, .unset, .unset, .unset, .unset]) at_69 rfl rfl ?_
      refine C.newobj (q := 74) [("elements", "[I", (.array .int)), ("locations", "[I", (.array .int)), ("blocks", "[I", (.array .int)), ("starts", "[I", (.array .int)), ("ends", "[I", (.array .int)), ("markedEnds", "[I", (.array .int)), ("touched", "[I", (.array .int)), ("blockCount", "I", .int), ("touchedCount", "I", .int)] (fs := [("elements", "[I", .null), ("locations", "[I", .null), ("blocks", "[I", .null), ("starts", "[I", .null), ("ends", "[I", .null), ("markedEnds", "[I", .null), ("touched", "[I", .null), ("blockCount", "I", .int (0 : Int32)), ("touchedCount", "I", .int (0 : Int32))]) (k' := 1) (n' := 9) at_71 (hw _ (List.mem_of_getElem? (i := 1) rfl)) (hw _ (List.mem_of_getElem? (i := 2) rfl)) (hw _ (List.mem_of_getElem? (i := 3) rfl)) ⟨⟨Or.inr (hw _ (List.mem_of_getElem? (i := 12) rfl)), by decide⟩, ⟨⟨Or.inr (hw _ (List.mem_of_getElem? (i := 14) rfl)), by decide⟩, ⟨⟨Or.inr (hw _ (List.mem_of_getElem? (i := 16) rfl)), by decide⟩, ⟨⟨Or.inr (hw _ (List.mem_of_getElem? (i := 18) rfl)), by decide⟩, ⟨⟨Or.inr (hw _ (List.mem_of_getElem? (i := 20) rfl)), by decide⟩, ⟨⟨Or.inr (hw _ (List.mem_of_getElem? (i := 22) rfl)), by decide⟩, ⟨⟨Or.inr (hw _ (List.mem_of_getElem? (i := 24) rfl)), by decide⟩, ⟨⟨Or.inl (hw _ (List.mem_of_getElem? (i := 26) rfl)), by decide⟩, ⟨⟨Or.inl (hw _ (List.mem_of_getElem? (i := 40) rfl)), by decide⟩, trivial⟩⟩⟩⟩⟩⟩⟩⟩⟩ (by decide) (by decide) (by decide) rfl rfl rfl rfl (fun a71 => ?_)
      show G 1 9 [(a71, .inr ("com/example/terms_to_transitions/termstotransitions/equivalence/RefinablePartition", [("elements", "[I", .null), ("locations", "[I", .null), ("blocks", "[I", .null), ("starts", "[I", .null), ("ends", "[I", .null), ("markedEnds", "[I", .null), ("touched", "[I", .null), ("blockCount", "I", .int (0 : Int32)), ("touchedCount", "I", .int (0 : Int32))]))] 74 [.val (.int p0), .val (.int p1), .val (.int p2), .val (.int p3), .val (.int p4), .val (.int (Int32.ofNat n)), .val (.int (1 : Int32)), .val (.int (0 : Int32)), .val (.int (Int32.ofNat a)), .val (.int (Int32.ofNat b)), .val (.int (Int32.ofNat c)), .val (.int (Int32.ofNat d)), .unset, .unset, .unset, .unset, .unset, .unset, .unset, .unset, .unset, .unset, .unset, .unset, .unset, .unset, .unset, .unset, .unset, .unset, .unset] [.ref a71]
      refine C.dup (q := 75) at_74 rfl rfl ?_
      refine C.iload (q := 77) at_75 rfl rfl ?_
      refine C.callI (q := 80) 1 a71 [.int (Int32.ofNat n)] [.ref a71] at_77 (hw _ (List.mem_of_getElem? (i := 4) rfl)) (hw _ (List.mem_of_getElem? (i := 5) rfl)) (hw _ (List.mem_of_getElem? (i := 3) rfl)) (hw _ (List.mem_of_getElem? (i := 6) rfl)) (own_c9 l Z a0 n0 hw [] a71 n hn) rfl (by decide) (by decide) (by decide) own_pd5 rfl rfl rfl (Nat.le_of_eq rfl) (by decide) (by decide) rfl ?_
      rintro _ _ ⟨rfl, r0, r1, r2, r3, r4, r5, r6, rfl⟩
      show G 8 37 [(a71, .inr ("com/example/terms_to_transitions/termstotransitions/equivalence/RefinablePartition", [("elements", "[I", .ref r0), ("locations", "[I", .ref r1), ("blocks", "[I", .ref r2), ("starts", "[I", .ref r3), ("ends", "[I", .ref r4), ("markedEnds", "[I", .ref r5), ("touched", "[I", .ref r6), ("blockCount", "I", .int ((own_z n).2.2.2.2.2.2.2.2)), ("touchedCount", "I", .int ((own_z n).2.2.2.2.2.2.2.1))])), (r0, .inl (.int, (own_vl (own_z n).1))), (r1, .inl (.int, (own_vl (own_z n).2.1))), (r2, .inl (.int, (own_vl (own_z n).2.2.1))), (r3, .inl (.int, (own_vl (own_z n).2.2.2.1))), (r4, .inl (.int, (own_vl (own_z n).2.2.2.2.1))), (r5, .inl (.int, (own_vl (own_z n).2.2.2.2.2.1))), (r6, .inl (.int, (own_vl (own_z n).2.2.2.2.2.2.1)))] 80 [.val (.int p0), .val (.int p1), .val (.int p2), .val (.int p3), .val (.int p4), .val (.int (Int32.ofNat n)), .val (.int (1 : Int32)), .val (.int (0 : Int32)), .val (.int (Int32.ofNat a)), .val (.int (Int32.ofNat b)), .val (.int (Int32.ofNat c)), .val (.int (Int32.ofNat d)), .unset, .unset, .unset, .unset, .unset, .unset, .unset, .unset, .unset, .unset, .unset, .unset, .unset, .unset, .unset, .unset, .unset, .unset, .unset] [.ref a71]
      refine C.astore (q := 82) (ls' := [.val (.int p0), .val (.int p1), .val (.int p2), .val (.int p3), .val (.int p4), .val (.int (Int32.ofNat n)), .val (.int (1 : Int32)), .val (.int (0 : Int32)), .val (.int (Int32.ofNat a)), .val (.int (Int32.ofNat b)), .val (.int (Int32.ofNat c)), .val (.int (Int32.ofNat d)), .val (.ref a71), .unset, .unset, .unset, .unset, .unset, .unset, .unset, .unset, .unset, .unset, .unset, .unset, .unset, .unset, .unset, .unset, .unset, .unset]) at_80 rfl rfl rfl ?_
      refine C.newobj (q := 85) [] (fs := []) (k' := 9) (n' := 37) at_82 (hw _ (List.mem_of_getElem? (i := 27) rfl)) (hw _ (List.mem_of_getElem? (i := 28) rfl)) (hw _ (List.mem_of_getElem? (i := 29) rfl)) trivial (by decide) (by decide) (by decide) rfl rfl rfl rfl (fun a82 => ?_)
      show G 9 37 [(a71, .inr ("com/example/terms_to_transitions/termstotransitions/equivalence/RefinablePartition", [("elements", "[I", .ref r0), ("locations", "[I", .ref r1), ("blocks", "[I", .ref r2), ("starts", "[I", .ref r3), ("ends", "[I", .ref r4), ("markedEnds", "[I", .ref r5), ("touched", "[I", .ref r6), ("blockCount", "I", .int ((own_z n).2.2.2.2.2.2.2.2)), ("touchedCount", "I", .int ((own_z n).2.2.2.2.2.2.2.1))])), (r0, .inl (.int, (own_vl (own_z n).1))), (r1, .inl (.int, (own_vl (own_z n).2.1))), (r2, .inl (.int, (own_vl (own_z n).2.2.1))), (r3, .inl (.int, (own_vl (own_z n).2.2.2.1))), (r4, .inl (.int, (own_vl (own_z n).2.2.2.2.1))), (r5, .inl (.int, (own_vl (own_z n).2.2.2.2.2.1))), (r6, .inl (.int, (own_vl (own_z n).2.2.2.2.2.2.1))), (a82, .inr ("com/example/terms_to_transitions/termstotransitions/equivalence/RefinablePartitionMarkPinLaw", []))] 85 [.val (.int p0), .val (.int p1), .val (.int p2), .val (.int p3), .val (.int p4), .val (.int (Int32.ofNat n)), .val (.int (1 : Int32)), .val (.int (0 : Int32)), .val (.int (Int32.ofNat a)), .val (.int (Int32.ofNat b)), .val (.int (Int32.ofNat c)), .val (.int (Int32.ofNat d)), .val (.ref a71), .unset, .unset, .unset, .unset, .unset, .unset, .unset, .unset, .unset, .unset, .unset, .unset, .unset, .unset, .unset, .unset, .unset, .unset] [.ref a82]
      show G 9 37 (own_HT a71 a82 r0 r1 r2 r3 r4 r5 r6 (own_z n)) 85 [.val (.int p0), .val (.int p1), .val (.int p2), .val (.int p3), .val (.int p4), .val (.int (Int32.ofNat n)), .val (.int (1 : Int32)), .val (.int (0 : Int32)), .val (.int (Int32.ofNat a)), .val (.int (Int32.ofNat b)), .val (.int (Int32.ofNat c)), .val (.int (Int32.ofNat d)), .val (.ref a71), .unset, .unset, .unset, .unset, .unset, .unset, .unset, .unset, .unset, .unset, .unset, .unset, .unset, .unset, .unset, .unset, .unset, .unset] [.ref a82]
      obtain ⟨f0, f1, f2, f3, f4, f5, gA, gB, gC, gC2, gT⟩ := own_all10 hn.1 hn.2 ha hb hc hd
      refine C.dup (q := 86) at_85 rfl rfl ?_
      refine C.callI (q := 89) 1 a82 [] [.ref a82] at_86 (hw _ (List.mem_of_getElem? (i := 30) rfl)) (hw _ (List.mem_of_getElem? (i := 31) rfl)) (hw _ (List.mem_of_getElem? (i := 29) rfl)) (hw _ (List.mem_of_getElem? (i := 32) rfl)) (own_c7 l Z a0 n0 hw [] a82 (own_HT a71 a82 r0 r1 r2 r3 r4 r5 r6 (own_z n))) rfl (by decide) (by decide) (by decide) own_pd6 rfl rfl rfl (Nat.le_of_eq rfl) (by decide) (by decide) rfl ?_
      rintro _ _ ⟨rfl, hE⟩
      rw [hE]
      show G 9 37 (own_HT a71 a82 r0 r1 r2 r3 r4 r5 r6 (own_z n)) 89 [.val (.int p0), .val (.int p1), .val (.int p2), .val (.int p3), .val (.int p4), .val (.int (Int32.ofNat n)), .val (.int (1 : Int32)), .val (.int (0 : Int32)), .val (.int (Int32.ofNat a)), .val (.int (Int32.ofNat b)), .val (.int (Int32.ofNat c)), .val (.int (Int32.ofNat d)), .val (.ref a71), .unset, .unset, .unset, .unset, .unset, .unset, .unset, .unset, .unset, .unset, .unset, .unset, .unset, .unset, .unset, .unset, .unset, .unset] [.ref a82]
      refine C.astore (q := 91) (ls' := [.val (.int p0), .val (.int p1), .val (.int p2), .val (.int p3), .val (.int p4), .val (.int (Int32.ofNat n)), .val (.int (1 : Int32)), .val (.int (0 : Int32)), .val (.int (Int32.ofNat a)), .val (.int (Int32.ofNat b)), .val (.int (Int32.ofNat c)), .val (.int (Int32.ofNat d)), .val (.ref a71), .val (.ref a82), .unset, .unset, .unset, .unset, .unset, .unset, .unset, .unset, .unset, .unset, .unset, .unset, .unset, .unset, .unset, .unset, .unset]) at_89 rfl rfl rfl ?_
      refine C.aload (q := 93) at_91 rfl rfl rfl ?_
      refine C.iload (q := 95) at_93 rfl rfl ?_
      refine C.callV (q := 98) 0 0 [.int (Int32.ofNat a)] [] at_95 (hw _ (List.mem_of_getElem? (i := 34) rfl)) (hw _ (List.mem_of_getElem? (i := 35) rfl)) (hw _ (List.mem_of_getElem? (i := 36) rfl)) (hw _ (List.mem_of_getElem? (i := 37) rfl)) (hw _ (List.mem_of_getElem? (i := 3) rfl)) (hw _ (List.mem_of_getElem? (i := 38) rfl)) (own_m1 l Z a0 n0 hw [] a71 a82 r0 r1 r2 r3 r4 r5 r6 (own_z n) (Int32.ofNat a) f0) (by decide) (by decide) (by decide) own_pd7 rfl rfl rfl rfl (Nat.le_of_eq rfl) (by decide) (by decide) rfl ?_
      rintro _ _ ⟨rfl, hE⟩
      rw [hE, gA]
      show G 9 37 (own_HT a71 a82 r0 r1 r2 r3 r4 r5 r6 (own_mk (own_z n) (Int32.ofNat a))) 98 [.val (.int p0), .val (.int p1), .val (.int p2), .val (.int p3), .val (.int p4), .val (.int (Int32.ofNat n)), .val (.int (1 : Int32)), .val (.int (0 : Int32)), .val (.int (Int32.ofNat a)), .val (.int (Int32.ofNat b)), .val (.int (Int32.ofNat c)), .val (.int (Int32.ofNat d)), .val (.ref a71), .val (.ref a82), .unset, .unset, .unset, .unset, .unset, .unset, .unset, .unset, .unset, .unset, .unset, .unset, .unset, .unset, .unset, .unset, .unset] [.int (1 : Int32)]
      refine C.istore (q := 100) (ls' := [.val (.int p0), .val (.int p1), .val (.int p2), .val (.int p3), .val (.int p4), .val (.int (Int32.ofNat n)), .val (.int (1 : Int32)), .val (.int (0 : Int32)), .val (.int (Int32.ofNat a)), .val (.int (Int32.ofNat b)), .val (.int (Int32.ofNat c)), .val (.int (Int32.ofNat d)), .val (.ref a71), .val (.ref a82), .val (.int (1 : Int32)), .unset, .unset, .unset, .unset, .unset, .unset, .unset, .unset, .unset, .unset, .unset, .unset, .unset, .unset, .unset, .unset]) at_98 rfl rfl ?_
      refine C.iload (q := 102) at_100 rfl rfl ?_
      refine C.ifEq (q := 135) (q' := 105) at_102 (by decide) (by decide) rfl (fun h102 => absurd h102 (by decide)) (fun h102 => ?_)
      refine C.aload (q := 107) at_105 rfl rfl rfl ?_
      refine C.iload (q := 109) at_107 rfl rfl ?_
      refine C.callV (q := 112) 0 0 [.int (Int32.ofNat b)] [] at_109 (hw _ (List.mem_of_getElem? (i := 34) rfl)) (hw _ (List.mem_of_getElem? (i := 35) rfl)) (hw _ (List.mem_of_getElem? (i := 36) rfl)) (hw _ (List.mem_of_getElem? (i := 37) rfl)) (hw _ (List.mem_of_getElem? (i := 3) rfl)) (hw _ (List.mem_of_getElem? (i := 38) rfl)) (own_m1 l Z a0 n0 hw [] a71 a82 r0 r1 r2 r3 r4 r5 r6 (own_mk (own_z n) (Int32.ofNat a)) (Int32.ofNat b) f1) (by decide) (by decide) (by decide) own_pd7 rfl rfl rfl rfl (Nat.le_of_eq rfl) (by decide) (by decide) rfl ?_
      rintro _ _ ⟨rfl, hE⟩
      rw [hE, gB]
      show G 9 37 (own_HT a71 a82 r0 r1 r2 r3 r4 r5 r6 (own_mk (own_mk (own_z n) (Int32.ofNat a)) (Int32.ofNat b))) 112 [.val (.int p0), .val (.int p1), .val (.int p2), .val (.int p3), .val (.int p4), .val (.int (Int32.ofNat n)), .val (.int (1 : Int32)), .val (.int (0 : Int32)), .val (.int (Int32.ofNat a)), .val (.int (Int32.ofNat b)), .val (.int (Int32.ofNat c)), .val (.int (Int32.ofNat d)), .val (.ref a71), .val (.ref a82), .val (.int (1 : Int32)), .unset, .unset, .unset, .unset, .unset, .unset, .unset, .unset, .unset, .unset, .unset, .unset, .unset, .unset, .unset, .unset] [.int (if (Int32.ofNat b) = (Int32.ofNat a) then (0 : Int32) else (1 : Int32))]
      refine C.iload (q := 114) at_112 rfl rfl ?_
      refine C.iload (q := 116) at_114 rfl rfl ?_
      have J116 : ∀ (zb : Int32), zb = (if (Int32.ofNat b) = (Int32.ofNat a) then (0 : Int32) else (1 : Int32)) → G 9 37 (own_HT a71 a82 r0 r1 r2 r3 r4 r5 r6 (own_mk (own_mk (own_z n) (Int32.ofNat a)) (Int32.ofNat b))) 124 [.val (.int p0), .val (.int p1), .val (.int p2), .val (.int p3), .val (.int p4), .val (.int (Int32.ofNat n)), .val (.int (1 : Int32)), .val (.int (0 : Int32)), .val (.int (Int32.ofNat a)), .val (.int (Int32.ofNat b)), .val (.int (Int32.ofNat c)), .val (.int (Int32.ofNat d)), .val (.ref a71), .val (.ref a82), .val (.int (1 : Int32)), .unset, .unset, .unset, .unset, .unset, .unset, .unset, .unset, .unset, .unset, .unset, .unset, .unset, .unset, .unset, .unset] [.int zb, .int (if (Int32.ofNat b) = (Int32.ofNat a) then (0 : Int32) else (1 : Int32))] := by
        intro zb hzb
        refine C.icmpNe (q := 131) (q' := 127) at_124 (by decide) (by decide) rfl (fun h124 => ?_) (fun h124 => absurd (hzb.symm) h124)
        refine C.iconst (q := 128) (z := (1 : Int32)) at_127 rfl rfl ?_
        refine C.goto (q := 136) at_128 (by decide) (by decide) ?_
        refine C.istore (q := 138) (ls' := [.val (.int p0), .val (.int p1), .val (.int p2), .val (.int p3), .val (.int p4), .val (.int (Int32.ofNat n)), .val (.int (1 : Int32)), .val (.int (0 : Int32)), .val (.int (Int32.ofNat a)), .val (.int (Int32.ofNat b)), .val (.int (Int32.ofNat c)), .val (.int (Int32.ofNat d)), .val (.ref a71), .val (.ref a82), .val (.int (1 : Int32)), .val (.int (1 : Int32)), .unset, .unset, .unset, .unset, .unset, .unset, .unset, .unset, .unset, .unset, .unset, .unset, .unset, .unset, .unset]) at_136 rfl rfl ?_
        refine C.aload (q := 140) at_138 rfl rfl rfl ?_
        refine C.aload (q := 142) at_140 rfl rfl rfl ?_
        refine C.callV (q := 145) 0 0 [.ref a82] [] at_142 (hw _ (List.mem_of_getElem? (i := 41) rfl)) (hw _ (List.mem_of_getElem? (i := 42) rfl)) (hw _ (List.mem_of_getElem? (i := 43) rfl)) (hw _ (List.mem_of_getElem? (i := 44) rfl)) (hw _ (List.mem_of_getElem? (i := 3) rfl)) (hw _ (List.mem_of_getElem? (i := 45) rfl)) (own_m8 l Z a0 n0 hw [] a71 a82 r0 r1 r2 r3 r4 r5 r6 (own_mk (own_mk (own_z n) (Int32.ofNat a)) (Int32.ofNat b)) f2) (by decide) (by decide) (by decide) own_pd8 rfl rfl rfl rfl (Nat.le_of_eq rfl) (by decide) (by decide) rfl ?_
        rintro _ _ ⟨rfl, hE⟩
        rw [hE]
        show G 9 37 (own_HT a71 a82 r0 r1 r2 r3 r4 r5 r6 (own_split (own_mk (own_mk (own_z n) (Int32.ofNat a)) (Int32.ofNat b)))) 145 [.val (.int p0), .val (.int p1), .val (.int p2), .val (.int p3), .val (.int p4), .val (.int (Int32.ofNat n)), .val (.int (1 : Int32)), .val (.int (0 : Int32)), .val (.int (Int32.ofNat a)), .val (.int (Int32.ofNat b)), .val (.int (Int32.ofNat c)), .val (.int (Int32.ofNat d)), .val (.ref a71), .val (.ref a82), .val (.int (1 : Int32)), .val (.int (1 : Int32)), .unset, .unset, .unset, .unset, .unset, .unset, .unset, .unset, .unset, .unset, .unset, .unset, .unset, .unset, .unset] []
        refine C.aload (q := 147) at_145 rfl rfl rfl ?_
        refine C.iload (q := 149) at_147 rfl rfl ?_
        refine C.callV (q := 152) 0 0 [.int (Int32.ofNat c)] [] at_149 (hw _ (List.mem_of_getElem? (i := 34) rfl)) (hw _ (List.mem_of_getElem? (i := 35) rfl)) (hw _ (List.mem_of_getElem? (i := 36) rfl)) (hw _ (List.mem_of_getElem? (i := 37) rfl)) (hw _ (List.mem_of_getElem? (i := 3) rfl)) (hw _ (List.mem_of_getElem? (i := 38) rfl)) (own_m1 l Z a0 n0 hw [] a71 a82 r0 r1 r2 r3 r4 r5 r6 (own_split (own_mk (own_mk (own_z n) (Int32.ofNat a)) (Int32.ofNat b))) (Int32.ofNat c) f3) (by decide) (by decide) (by decide) own_pd7 rfl rfl rfl rfl (Nat.le_of_eq rfl) (by decide) (by decide) rfl ?_
        rintro _ _ ⟨rfl, hE⟩
        rw [hE, gC]
        show G 9 37 (own_HT a71 a82 r0 r1 r2 r3 r4 r5 r6 (own_mk (own_split (own_mk (own_mk (own_z n) (Int32.ofNat a)) (Int32.ofNat b))) (Int32.ofNat c))) 152 [.val (.int p0), .val (.int p1), .val (.int p2), .val (.int p3), .val (.int p4), .val (.int (Int32.ofNat n)), .val (.int (1 : Int32)), .val (.int (0 : Int32)), .val (.int (Int32.ofNat a)), .val (.int (Int32.ofNat b)), .val (.int (Int32.ofNat c)), .val (.int (Int32.ofNat d)), .val (.ref a71), .val (.ref a82), .val (.int (1 : Int32)), .val (.int (1 : Int32)), .unset, .unset, .unset, .unset, .unset, .unset, .unset, .unset, .unset, .unset, .unset, .unset, .unset, .unset, .unset] [.int (1 : Int32)]
        refine C.istore (q := 154) (ls' := [.val (.int p0), .val (.int p1), .val (.int p2), .val (.int p3), .val (.int p4), .val (.int (Int32.ofNat n)), .val (.int (1 : Int32)), .val (.int (0 : Int32)), .val (.int (Int32.ofNat a)), .val (.int (Int32.ofNat b)), .val (.int (Int32.ofNat c)), .val (.int (Int32.ofNat d)), .val (.ref a71), .val (.ref a82), .val (.int (1 : Int32)), .val (.int (1 : Int32)), .val (.int (1 : Int32)), .unset, .unset, .unset, .unset, .unset, .unset, .unset, .unset, .unset, .unset, .unset, .unset, .unset, .unset]) at_152 rfl rfl ?_
        refine C.iload (q := 156) at_154 rfl rfl ?_
        refine C.ifEq (q := 189) (q' := 159) at_156 (by decide) (by decide) rfl (fun h156 => ?_) (fun h156 => absurd (by decide) h156)
        refine C.iconst (q := 190) (z := (1 : Int32)) at_189 rfl rfl ?_
        refine C.istore (q := 192) (ls' := [.val (.int p0), .val (.int p1), .val (.int p2), .val (.int p3), .val (.int p4), .val (.int (Int32.ofNat n)), .val (.int (1 : Int32)), .val (.int (0 : Int32)), .val (.int (Int32.ofNat a)), .val (.int (Int32.ofNat b)), .val (.int (Int32.ofNat c)), .val (.int (Int32.ofNat d)), .val (.ref a71), .val (.ref a82), .val (.int (1 : Int32)), .val (.int (1 : Int32)), .val (.int (1 : Int32)), .val (.int (1 : Int32)), .unset, .unset, .unset, .unset, .unset, .unset, .unset, .unset, .unset, .unset, .unset, .unset, .unset]) at_190 rfl rfl ?_
        refine C.aload (q := 194) at_192 rfl rfl rfl ?_
        refine C.iload (q := 196) at_194 rfl rfl ?_
        refine C.callV (q := 199) 0 0 [.int (Int32.ofNat c)] [] at_196 (hw _ (List.mem_of_getElem? (i := 34) rfl)) (hw _ (List.mem_of_getElem? (i := 35) rfl)) (hw _ (List.mem_of_getElem? (i := 36) rfl)) (hw _ (List.mem_of_getElem? (i := 37) rfl)) (hw _ (List.mem_of_getElem? (i := 3) rfl)) (hw _ (List.mem_of_getElem? (i := 38) rfl)) (own_m1 l Z a0 n0 hw [] a71 a82 r0 r1 r2 r3 r4 r5 r6 (own_mk (own_split (own_mk (own_mk (own_z n) (Int32.ofNat a)) (Int32.ofNat b))) (Int32.ofNat c)) (Int32.ofNat c) f4) (by decide) (by decide) (by decide) own_pd7 rfl rfl rfl rfl (Nat.le_of_eq rfl) (by decide) (by decide) rfl ?_
        rintro _ _ ⟨rfl, hE⟩
        rw [hE, gC2]
        show G 9 37 (own_HT a71 a82 r0 r1 r2 r3 r4 r5 r6 (own_mk (own_mk (own_split (own_mk (own_mk (own_z n) (Int32.ofNat a)) (Int32.ofNat b))) (Int32.ofNat c)) (Int32.ofNat c))) 199 [.val (.int p0), .val (.int p1), .val (.int p2), .val (.int p3), .val (.int p4), .val (.int (Int32.ofNat n)), .val (.int (1 : Int32)), .val (.int (0 : Int32)), .val (.int (Int32.ofNat a)), .val (.int (Int32.ofNat b)), .val (.int (Int32.ofNat c)), .val (.int (Int32.ofNat d)), .val (.ref a71), .val (.ref a82), .val (.int (1 : Int32)), .val (.int (1 : Int32)), .val (.int (1 : Int32)), .val (.int (1 : Int32)), .unset, .unset, .unset, .unset, .unset, .unset, .unset, .unset, .unset, .unset, .unset, .unset, .unset] [.int (0 : Int32)]
        refine C.ifNe (q := 206) (q' := 202) at_199 (by decide) (by decide) rfl (fun h199 => ?_) (fun h199 => absurd (by decide) h199)
        refine C.iconst (q := 203) (z := (1 : Int32)) at_202 rfl rfl ?_
        refine C.goto (q := 207) at_203 (by decide) (by decide) ?_
        refine C.istore (q := 209) (ls' := [.val (.int p0), .val (.int p1), .val (.int p2), .val (.int p3), .val (.int p4), .val (.int (Int32.ofNat n)), .val (.int (1 : Int32)), .val (.int (0 : Int32)), .val (.int (Int32.ofNat a)), .val (.int (Int32.ofNat b)), .val (.int (Int32.ofNat c)), .val (.int (Int32.ofNat d)), .val (.ref a71), .val (.ref a82), .val (.int (1 : Int32)), .val (.int (1 : Int32)), .val (.int (1 : Int32)), .val (.int (1 : Int32)), .val (.int (1 : Int32)), .unset, .unset, .unset, .unset, .unset, .unset, .unset, .unset, .unset, .unset, .unset, .unset]) at_207 rfl rfl ?_
        refine C.aload (q := 211) at_209 rfl rfl rfl ?_
        refine C.aload (q := 213) at_211 rfl rfl rfl ?_
        refine C.callV (q := 216) 0 0 [.ref a82] [] at_213 (hw _ (List.mem_of_getElem? (i := 41) rfl)) (hw _ (List.mem_of_getElem? (i := 42) rfl)) (hw _ (List.mem_of_getElem? (i := 43) rfl)) (hw _ (List.mem_of_getElem? (i := 44) rfl)) (hw _ (List.mem_of_getElem? (i := 3) rfl)) (hw _ (List.mem_of_getElem? (i := 45) rfl)) (own_m8 l Z a0 n0 hw [] a71 a82 r0 r1 r2 r3 r4 r5 r6 (own_mk (own_mk (own_split (own_mk (own_mk (own_z n) (Int32.ofNat a)) (Int32.ofNat b))) (Int32.ofNat c)) (Int32.ofNat c)) f5) (by decide) (by decide) (by decide) own_pd8 rfl rfl rfl rfl (Nat.le_of_eq rfl) (by decide) (by decide) rfl ?_
        rintro _ _ ⟨rfl, hE⟩
        rw [hE]
        show G 9 37 (own_HT a71 a82 r0 r1 r2 r3 r4 r5 r6 (own_split (own_mk (own_mk (own_split (own_mk (own_mk (own_z n) (Int32.ofNat a)) (Int32.ofNat b))) (Int32.ofNat c)) (Int32.ofNat c)))) 216 [.val (.int p0), .val (.int p1), .val (.int p2), .val (.int p3), .val (.int p4), .val (.int (Int32.ofNat n)), .val (.int (1 : Int32)), .val (.int (0 : Int32)), .val (.int (Int32.ofNat a)), .val (.int (Int32.ofNat b)), .val (.int (Int32.ofNat c)), .val (.int (Int32.ofNat d)), .val (.ref a71), .val (.ref a82), .val (.int (1 : Int32)), .val (.int (1 : Int32)), .val (.int (1 : Int32)), .val (.int (1 : Int32)), .val (.int (1 : Int32)), .unset, .unset, .unset, .unset, .unset, .unset, .unset, .unset, .unset, .unset, .unset, .unset] []
        exact own_tl hw C a71 a82 r0 r1 r2 r3 r4 r5 r6 p0 p1 p2 p3 p4 (1 : Int32) (0 : Int32) n a b c d _ gT
      refine C.icmpEq (q := 123) (q' := 119) at_116 (by decide) (by decide) rfl (fun h116 => ?_) (fun h116 => ?_)
      · refine C.iconst (q := 124) (z := (0 : Int32)) at_123 rfl rfl ?_
        exact J116 _ (if_pos h116).symm
      · refine C.iconst (q := 120) (z := (1 : Int32)) at_119 rfl rfl ?_
        refine C.goto (q := 124) at_120 (by decide) (by decide) ?_
        exact J116 _ (if_neg h116).symm
    · refine C.iconst (q := 28) (z := (1 : Int32)) at_27 rfl rfl ?_
      refine C.goto (q := 32) at_28 (by decide) (by decide) ?_
      refine C.istore (q := 34) (ls' := [.val (.int p0), .val (.int p1), .val (.int p2), .val (.int p3), .val (.int p4), .val (.int (Int32.ofNat n)), .val (.int (1 : Int32)), .val (.int (1 : Int32)), .unset, .unset, .unset, .unset, .unset, .unset, .unset, .unset, .unset, .unset, .unset, .unset, .unset, .unset, .unset, .unset, .unset, .unset, .unset, .unset, .unset, .unset, .unset]) at_32 rfl rfl ?_
      refine C.iloadN (q := 35) at_34 rfl rfl ?_
      refine C.ldc (q := 37) (v := (2147483647 : Int32)) at_35 (hw _ (List.mem_of_getElem? (i := 0) rfl)) rfl ?_
      refine C.iand (q := 38) at_37 rfl ?_
      refine C.iload (q := 40) at_38 rfl rfl ?_
      refine C.irem (q := 41) at_40 (own_k0 hn) rfl ?_
      obtain ⟨a, ha, ea⟩ := own_ky p1 hn
      rw [ea]
      refine C.istore (q := 43) (ls' := [.val (.int p0), .val (.int p1), .val (.int p2), .val (.int p3), .val (.int p4), .val (.int (Int32.ofNat n)), .val (.int (1 : Int32)), .val (.int (1 : Int32)), .val (.int (Int32.ofNat a)), .unset, .unset, .unset, .unset, .unset, .unset, .unset, .unset, .unset, .unset, .unset, .unset, .unset, .unset, .unset, .unset, .unset, .unset, .unset, .unset, .unset, .unset]) at_41 rfl rfl ?_
      refine C.iloadN (q := 44) at_43 rfl rfl ?_
      refine C.ldc (q := 46) (v := (2147483647 : Int32)) at_44 (hw _ (List.mem_of_getElem? (i := 0) rfl)) rfl ?_
      refine C.iand (q := 47) at_46 rfl ?_
      refine C.iload (q := 49) at_47 rfl rfl ?_
      refine C.irem (q := 50) at_49 (own_k0 hn) rfl ?_
      obtain ⟨b, hb, eb⟩ := own_ky p2 hn
      rw [eb]
      refine C.istore (q := 52) (ls' := [.val (.int p0), .val (.int p1), .val (.int p2), .val (.int p3), .val (.int p4), .val (.int (Int32.ofNat n)), .val (.int (1 : Int32)), .val (.int (1 : Int32)), .val (.int (Int32.ofNat a)), .val (.int (Int32.ofNat b)), .unset, .unset, .unset, .unset, .unset, .unset, .unset, .unset, .unset, .unset, .unset, .unset, .unset, .unset, .unset, .unset, .unset, .unset, .unset, .unset, .unset]) at_50 rfl rfl ?_
      refine C.iloadN (q := 53) at_52 rfl rfl ?_
      refine C.ldc (q := 55) (v := (2147483647 : Int32)) at_53 (hw _ (List.mem_of_getElem? (i := 0) rfl)) rfl ?_
      refine C.iand (q := 56) at_55 rfl ?_
      refine C.iload (q := 58) at_56 rfl rfl ?_
      refine C.irem (q := 59) at_58 (own_k0 hn) rfl ?_
      obtain ⟨c, hc, ec⟩ := own_ky p3 hn
      rw [ec]
      refine C.istore (q := 61) (ls' := [.val (.int p0), .val (.int p1), .val (.int p2), .val (.int p3), .val (.int p4), .val (.int (Int32.ofNat n)), .val (.int (1 : Int32)), .val (.int (1 : Int32)), .val (.int (Int32.ofNat a)), .val (.int (Int32.ofNat b)), .val (.int (Int32.ofNat c)), .unset, .unset, .unset, .unset, .unset, .unset, .unset, .unset, .unset, .unset, .unset, .unset, .unset, .unset, .unset, .unset, .unset, .unset, .unset, .unset]) at_59 rfl rfl ?_
      refine C.iload (q := 63) at_61 rfl rfl ?_
      refine C.ldc (q := 65) (v := (2147483647 : Int32)) at_63 (hw _ (List.mem_of_getElem? (i := 0) rfl)) rfl ?_
      refine C.iand (q := 66) at_65 rfl ?_
      refine C.iload (q := 68) at_66 rfl rfl ?_
      refine C.irem (q := 69) at_68 (own_k0 hn) rfl ?_
      obtain ⟨d, hd, ed⟩ := own_ky p4 hn
      rw [ed]
      refine C.istore (q := 71) (ls' := [.val (.int p0), .val (.int p1), .val (.int p2), .val (.int p3), .val (.int p4), .val (.int (Int32.ofNat n)), .val (.int (1 : Int32)), .val (.int (1 : Int32)), .val (.int (Int32.ofNat a)), .val (.int (Int32.ofNat b)), .val (.int (Int32.ofNat c)), .val (.int (Int32.ofNat d)), .unset, .unset, .unset, .unset, .unset, .unset, .unset, .unset, .unset, .unset, .unset, .unset, .unset, .unset, .unset, .unset, .unset, .unset, .unset]) at_69 rfl rfl ?_
      refine C.newobj (q := 74) [("elements", "[I", (.array .int)), ("locations", "[I", (.array .int)), ("blocks", "[I", (.array .int)), ("starts", "[I", (.array .int)), ("ends", "[I", (.array .int)), ("markedEnds", "[I", (.array .int)), ("touched", "[I", (.array .int)), ("blockCount", "I", .int), ("touchedCount", "I", .int)] (fs := [("elements", "[I", .null), ("locations", "[I", .null), ("blocks", "[I", .null), ("starts", "[I", .null), ("ends", "[I", .null), ("markedEnds", "[I", .null), ("touched", "[I", .null), ("blockCount", "I", .int (0 : Int32)), ("touchedCount", "I", .int (0 : Int32))]) (k' := 1) (n' := 9) at_71 (hw _ (List.mem_of_getElem? (i := 1) rfl)) (hw _ (List.mem_of_getElem? (i := 2) rfl)) (hw _ (List.mem_of_getElem? (i := 3) rfl)) ⟨⟨Or.inr (hw _ (List.mem_of_getElem? (i := 12) rfl)), by decide⟩, ⟨⟨Or.inr (hw _ (List.mem_of_getElem? (i := 14) rfl)), by decide⟩, ⟨⟨Or.inr (hw _ (List.mem_of_getElem? (i := 16) rfl)), by decide⟩, ⟨⟨Or.inr (hw _ (List.mem_of_getElem? (i := 18) rfl)), by decide⟩, ⟨⟨Or.inr (hw _ (List.mem_of_getElem? (i := 20) rfl)), by decide⟩, ⟨⟨Or.inr (hw _ (List.mem_of_getElem? (i := 22) rfl)), by decide⟩, ⟨⟨Or.inr (hw _ (List.mem_of_getElem? (i := 24) rfl)), by decide⟩, ⟨⟨Or.inl (hw _ (List.mem_of_getElem? (i := 26) rfl)), by decide⟩, ⟨⟨Or.inl (hw _ (List.mem_of_getElem? (i := 40) rfl)), by decide⟩, trivial⟩⟩⟩⟩⟩⟩⟩⟩⟩ (by decide) (by decide) (by decide) rfl rfl rfl rfl (fun a71 => ?_)
      show G 1 9 [(a71, .inr ("com/example/terms_to_transitions/termstotransitions/equivalence/RefinablePartition", [("elements", "[I", .null), ("locations", "[I", .null), ("blocks", "[I", .null), ("starts", "[I", .null), ("ends", "[I", .null), ("markedEnds", "[I", .null), ("touched", "[I", .null), ("blockCount", "I", .int (0 : Int32)), ("touchedCount", "I", .int (0 : Int32))]))] 74 [.val (.int p0), .val (.int p1), .val (.int p2), .val (.int p3), .val (.int p4), .val (.int (Int32.ofNat n)), .val (.int (1 : Int32)), .val (.int (1 : Int32)), .val (.int (Int32.ofNat a)), .val (.int (Int32.ofNat b)), .val (.int (Int32.ofNat c)), .val (.int (Int32.ofNat d)), .unset, .unset, .unset, .unset, .unset, .unset, .unset, .unset, .unset, .unset, .unset, .unset, .unset, .unset, .unset, .unset, .unset, .unset, .unset] [.ref a71]
      refine C.dup (q := 75) at_74 rfl rfl ?_
      refine C.iload (q := 77) at_75 rfl rfl ?_
      refine C.callI (q := 80) 1 a71 [.int (Int32.ofNat n)] [.ref a71] at_77 (hw _ (List.mem_of_getElem? (i := 4) rfl)) (hw _ (List.mem_of_getElem? (i := 5) rfl)) (hw _ (List.mem_of_getElem? (i := 3) rfl)) (hw _ (List.mem_of_getElem? (i := 6) rfl)) (own_c9 l Z a0 n0 hw [] a71 n hn) rfl (by decide) (by decide) (by decide) own_pd5 rfl rfl rfl (Nat.le_of_eq rfl) (by decide) (by decide) rfl ?_
      rintro _ _ ⟨rfl, r0, r1, r2, r3, r4, r5, r6, rfl⟩
      show G 8 37 [(a71, .inr ("com/example/terms_to_transitions/termstotransitions/equivalence/RefinablePartition", [("elements", "[I", .ref r0), ("locations", "[I", .ref r1), ("blocks", "[I", .ref r2), ("starts", "[I", .ref r3), ("ends", "[I", .ref r4), ("markedEnds", "[I", .ref r5), ("touched", "[I", .ref r6), ("blockCount", "I", .int ((own_z n).2.2.2.2.2.2.2.2)), ("touchedCount", "I", .int ((own_z n).2.2.2.2.2.2.2.1))])), (r0, .inl (.int, (own_vl (own_z n).1))), (r1, .inl (.int, (own_vl (own_z n).2.1))), (r2, .inl (.int, (own_vl (own_z n).2.2.1))), (r3, .inl (.int, (own_vl (own_z n).2.2.2.1))), (r4, .inl (.int, (own_vl (own_z n).2.2.2.2.1))), (r5, .inl (.int, (own_vl (own_z n).2.2.2.2.2.1))), (r6, .inl (.int, (own_vl (own_z n).2.2.2.2.2.2.1)))] 80 [.val (.int p0), .val (.int p1), .val (.int p2), .val (.int p3), .val (.int p4), .val (.int (Int32.ofNat n)), .val (.int (1 : Int32)), .val (.int (1 : Int32)), .val (.int (Int32.ofNat a)), .val (.int (Int32.ofNat b)), .val (.int (Int32.ofNat c)), .val (.int (Int32.ofNat d)), .unset, .unset, .unset, .unset, .unset, .unset, .unset, .unset, .unset, .unset, .unset, .unset, .unset, .unset, .unset, .unset, .unset, .unset, .unset] [.ref a71]
      refine C.astore (q := 82) (ls' := [.val (.int p0), .val (.int p1), .val (.int p2), .val (.int p3), .val (.int p4), .val (.int (Int32.ofNat n)), .val (.int (1 : Int32)), .val (.int (1 : Int32)), .val (.int (Int32.ofNat a)), .val (.int (Int32.ofNat b)), .val (.int (Int32.ofNat c)), .val (.int (Int32.ofNat d)), .val (.ref a71), .unset, .unset, .unset, .unset, .unset, .unset, .unset, .unset, .unset, .unset, .unset, .unset, .unset, .unset, .unset, .unset, .unset, .unset]) at_80 rfl rfl rfl ?_
      refine C.newobj (q := 85) [] (fs := []) (k' := 9) (n' := 37) at_82 (hw _ (List.mem_of_getElem? (i := 27) rfl)) (hw _ (List.mem_of_getElem? (i := 28) rfl)) (hw _ (List.mem_of_getElem? (i := 29) rfl)) trivial (by decide) (by decide) (by decide) rfl rfl rfl rfl (fun a82 => ?_)
      show G 9 37 [(a71, .inr ("com/example/terms_to_transitions/termstotransitions/equivalence/RefinablePartition", [("elements", "[I", .ref r0), ("locations", "[I", .ref r1), ("blocks", "[I", .ref r2), ("starts", "[I", .ref r3), ("ends", "[I", .ref r4), ("markedEnds", "[I", .ref r5), ("touched", "[I", .ref r6), ("blockCount", "I", .int ((own_z n).2.2.2.2.2.2.2.2)), ("touchedCount", "I", .int ((own_z n).2.2.2.2.2.2.2.1))])), (r0, .inl (.int, (own_vl (own_z n).1))), (r1, .inl (.int, (own_vl (own_z n).2.1))), (r2, .inl (.int, (own_vl (own_z n).2.2.1))), (r3, .inl (.int, (own_vl (own_z n).2.2.2.1))), (r4, .inl (.int, (own_vl (own_z n).2.2.2.2.1))), (r5, .inl (.int, (own_vl (own_z n).2.2.2.2.2.1))), (r6, .inl (.int, (own_vl (own_z n).2.2.2.2.2.2.1))), (a82, .inr ("com/example/terms_to_transitions/termstotransitions/equivalence/RefinablePartitionMarkPinLaw", []))] 85 [.val (.int p0), .val (.int p1), .val (.int p2), .val (.int p3), .val (.int p4), .val (.int (Int32.ofNat n)), .val (.int (1 : Int32)), .val (.int (1 : Int32)), .val (.int (Int32.ofNat a)), .val (.int (Int32.ofNat b)), .val (.int (Int32.ofNat c)), .val (.int (Int32.ofNat d)), .val (.ref a71), .unset, .unset, .unset, .unset, .unset, .unset, .unset, .unset, .unset, .unset, .unset, .unset, .unset, .unset, .unset, .unset, .unset, .unset] [.ref a82]
      show G 9 37 (own_HT a71 a82 r0 r1 r2 r3 r4 r5 r6 (own_z n)) 85 [.val (.int p0), .val (.int p1), .val (.int p2), .val (.int p3), .val (.int p4), .val (.int (Int32.ofNat n)), .val (.int (1 : Int32)), .val (.int (1 : Int32)), .val (.int (Int32.ofNat a)), .val (.int (Int32.ofNat b)), .val (.int (Int32.ofNat c)), .val (.int (Int32.ofNat d)), .val (.ref a71), .unset, .unset, .unset, .unset, .unset, .unset, .unset, .unset, .unset, .unset, .unset, .unset, .unset, .unset, .unset, .unset, .unset, .unset] [.ref a82]
      obtain ⟨f0, f1, f2, f3, f4, f5, f6, gA, gB, gC, gD, gC2, gT⟩ := own_all11 hn.1 hn.2 ha hb hc hd
      refine C.dup (q := 86) at_85 rfl rfl ?_
      refine C.callI (q := 89) 1 a82 [] [.ref a82] at_86 (hw _ (List.mem_of_getElem? (i := 30) rfl)) (hw _ (List.mem_of_getElem? (i := 31) rfl)) (hw _ (List.mem_of_getElem? (i := 29) rfl)) (hw _ (List.mem_of_getElem? (i := 32) rfl)) (own_c7 l Z a0 n0 hw [] a82 (own_HT a71 a82 r0 r1 r2 r3 r4 r5 r6 (own_z n))) rfl (by decide) (by decide) (by decide) own_pd6 rfl rfl rfl (Nat.le_of_eq rfl) (by decide) (by decide) rfl ?_
      rintro _ _ ⟨rfl, hE⟩
      rw [hE]
      show G 9 37 (own_HT a71 a82 r0 r1 r2 r3 r4 r5 r6 (own_z n)) 89 [.val (.int p0), .val (.int p1), .val (.int p2), .val (.int p3), .val (.int p4), .val (.int (Int32.ofNat n)), .val (.int (1 : Int32)), .val (.int (1 : Int32)), .val (.int (Int32.ofNat a)), .val (.int (Int32.ofNat b)), .val (.int (Int32.ofNat c)), .val (.int (Int32.ofNat d)), .val (.ref a71), .unset, .unset, .unset, .unset, .unset, .unset, .unset, .unset, .unset, .unset, .unset, .unset, .unset, .unset, .unset, .unset, .unset, .unset] [.ref a82]
      refine C.astore (q := 91) (ls' := [.val (.int p0), .val (.int p1), .val (.int p2), .val (.int p3), .val (.int p4), .val (.int (Int32.ofNat n)), .val (.int (1 : Int32)), .val (.int (1 : Int32)), .val (.int (Int32.ofNat a)), .val (.int (Int32.ofNat b)), .val (.int (Int32.ofNat c)), .val (.int (Int32.ofNat d)), .val (.ref a71), .val (.ref a82), .unset, .unset, .unset, .unset, .unset, .unset, .unset, .unset, .unset, .unset, .unset, .unset, .unset, .unset, .unset, .unset, .unset]) at_89 rfl rfl rfl ?_
      refine C.aload (q := 93) at_91 rfl rfl rfl ?_
      refine C.iload (q := 95) at_93 rfl rfl ?_
      refine C.callV (q := 98) 0 0 [.int (Int32.ofNat a)] [] at_95 (hw _ (List.mem_of_getElem? (i := 34) rfl)) (hw _ (List.mem_of_getElem? (i := 35) rfl)) (hw _ (List.mem_of_getElem? (i := 36) rfl)) (hw _ (List.mem_of_getElem? (i := 37) rfl)) (hw _ (List.mem_of_getElem? (i := 3) rfl)) (hw _ (List.mem_of_getElem? (i := 38) rfl)) (own_m1 l Z a0 n0 hw [] a71 a82 r0 r1 r2 r3 r4 r5 r6 (own_z n) (Int32.ofNat a) f0) (by decide) (by decide) (by decide) own_pd7 rfl rfl rfl rfl (Nat.le_of_eq rfl) (by decide) (by decide) rfl ?_
      rintro _ _ ⟨rfl, hE⟩
      rw [hE, gA]
      show G 9 37 (own_HT a71 a82 r0 r1 r2 r3 r4 r5 r6 (own_mk (own_z n) (Int32.ofNat a))) 98 [.val (.int p0), .val (.int p1), .val (.int p2), .val (.int p3), .val (.int p4), .val (.int (Int32.ofNat n)), .val (.int (1 : Int32)), .val (.int (1 : Int32)), .val (.int (Int32.ofNat a)), .val (.int (Int32.ofNat b)), .val (.int (Int32.ofNat c)), .val (.int (Int32.ofNat d)), .val (.ref a71), .val (.ref a82), .unset, .unset, .unset, .unset, .unset, .unset, .unset, .unset, .unset, .unset, .unset, .unset, .unset, .unset, .unset, .unset, .unset] [.int (1 : Int32)]
      refine C.istore (q := 100) (ls' := [.val (.int p0), .val (.int p1), .val (.int p2), .val (.int p3), .val (.int p4), .val (.int (Int32.ofNat n)), .val (.int (1 : Int32)), .val (.int (1 : Int32)), .val (.int (Int32.ofNat a)), .val (.int (Int32.ofNat b)), .val (.int (Int32.ofNat c)), .val (.int (Int32.ofNat d)), .val (.ref a71), .val (.ref a82), .val (.int (1 : Int32)), .unset, .unset, .unset, .unset, .unset, .unset, .unset, .unset, .unset, .unset, .unset, .unset, .unset, .unset, .unset, .unset]) at_98 rfl rfl ?_
      refine C.iload (q := 102) at_100 rfl rfl ?_
      refine C.ifEq (q := 135) (q' := 105) at_102 (by decide) (by decide) rfl (fun h102 => absurd h102 (by decide)) (fun h102 => ?_)
      refine C.aload (q := 107) at_105 rfl rfl rfl ?_
      refine C.iload (q := 109) at_107 rfl rfl ?_
      refine C.callV (q := 112) 0 0 [.int (Int32.ofNat b)] [] at_109 (hw _ (List.mem_of_getElem? (i := 34) rfl)) (hw _ (List.mem_of_getElem? (i := 35) rfl)) (hw _ (List.mem_of_getElem? (i := 36) rfl)) (hw _ (List.mem_of_getElem? (i := 37) rfl)) (hw _ (List.mem_of_getElem? (i := 3) rfl)) (hw _ (List.mem_of_getElem? (i := 38) rfl)) (own_m1 l Z a0 n0 hw [] a71 a82 r0 r1 r2 r3 r4 r5 r6 (own_mk (own_z n) (Int32.ofNat a)) (Int32.ofNat b) f1) (by decide) (by decide) (by decide) own_pd7 rfl rfl rfl rfl (Nat.le_of_eq rfl) (by decide) (by decide) rfl ?_
      rintro _ _ ⟨rfl, hE⟩
      rw [hE, gB]
      show G 9 37 (own_HT a71 a82 r0 r1 r2 r3 r4 r5 r6 (own_mk (own_mk (own_z n) (Int32.ofNat a)) (Int32.ofNat b))) 112 [.val (.int p0), .val (.int p1), .val (.int p2), .val (.int p3), .val (.int p4), .val (.int (Int32.ofNat n)), .val (.int (1 : Int32)), .val (.int (1 : Int32)), .val (.int (Int32.ofNat a)), .val (.int (Int32.ofNat b)), .val (.int (Int32.ofNat c)), .val (.int (Int32.ofNat d)), .val (.ref a71), .val (.ref a82), .val (.int (1 : Int32)), .unset, .unset, .unset, .unset, .unset, .unset, .unset, .unset, .unset, .unset, .unset, .unset, .unset, .unset, .unset, .unset] [.int (if (Int32.ofNat b) = (Int32.ofNat a) then (0 : Int32) else (1 : Int32))]
      refine C.iload (q := 114) at_112 rfl rfl ?_
      refine C.iload (q := 116) at_114 rfl rfl ?_
      have J116 : ∀ (zb : Int32), zb = (if (Int32.ofNat b) = (Int32.ofNat a) then (0 : Int32) else (1 : Int32)) → G 9 37 (own_HT a71 a82 r0 r1 r2 r3 r4 r5 r6 (own_mk (own_mk (own_z n) (Int32.ofNat a)) (Int32.ofNat b))) 124 [.val (.int p0), .val (.int p1), .val (.int p2), .val (.int p3), .val (.int p4), .val (.int (Int32.ofNat n)), .val (.int (1 : Int32)), .val (.int (1 : Int32)), .val (.int (Int32.ofNat a)), .val (.int (Int32.ofNat b)), .val (.int (Int32.ofNat c)), .val (.int (Int32.ofNat d)), .val (.ref a71), .val (.ref a82), .val (.int (1 : Int32)), .unset, .unset, .unset, .unset, .unset, .unset, .unset, .unset, .unset, .unset, .unset, .unset, .unset, .unset, .unset, .unset] [.int zb, .int (if (Int32.ofNat b) = (Int32.ofNat a) then (0 : Int32) else (1 : Int32))] := by
        intro zb hzb
        refine C.icmpNe (q := 131) (q' := 127) at_124 (by decide) (by decide) rfl (fun h124 => ?_) (fun h124 => absurd (hzb.symm) h124)
        refine C.iconst (q := 128) (z := (1 : Int32)) at_127 rfl rfl ?_
        refine C.goto (q := 136) at_128 (by decide) (by decide) ?_
        refine C.istore (q := 138) (ls' := [.val (.int p0), .val (.int p1), .val (.int p2), .val (.int p3), .val (.int p4), .val (.int (Int32.ofNat n)), .val (.int (1 : Int32)), .val (.int (1 : Int32)), .val (.int (Int32.ofNat a)), .val (.int (Int32.ofNat b)), .val (.int (Int32.ofNat c)), .val (.int (Int32.ofNat d)), .val (.ref a71), .val (.ref a82), .val (.int (1 : Int32)), .val (.int (1 : Int32)), .unset, .unset, .unset, .unset, .unset, .unset, .unset, .unset, .unset, .unset, .unset, .unset, .unset, .unset, .unset]) at_136 rfl rfl ?_
        refine C.aload (q := 140) at_138 rfl rfl rfl ?_
        refine C.aload (q := 142) at_140 rfl rfl rfl ?_
        refine C.callV (q := 145) 0 0 [.ref a82] [] at_142 (hw _ (List.mem_of_getElem? (i := 41) rfl)) (hw _ (List.mem_of_getElem? (i := 42) rfl)) (hw _ (List.mem_of_getElem? (i := 43) rfl)) (hw _ (List.mem_of_getElem? (i := 44) rfl)) (hw _ (List.mem_of_getElem? (i := 3) rfl)) (hw _ (List.mem_of_getElem? (i := 45) rfl)) (own_m8 l Z a0 n0 hw [] a71 a82 r0 r1 r2 r3 r4 r5 r6 (own_mk (own_mk (own_z n) (Int32.ofNat a)) (Int32.ofNat b)) f2) (by decide) (by decide) (by decide) own_pd8 rfl rfl rfl rfl (Nat.le_of_eq rfl) (by decide) (by decide) rfl ?_
        rintro _ _ ⟨rfl, hE⟩
        rw [hE]
        show G 9 37 (own_HT a71 a82 r0 r1 r2 r3 r4 r5 r6 (own_split (own_mk (own_mk (own_z n) (Int32.ofNat a)) (Int32.ofNat b)))) 145 [.val (.int p0), .val (.int p1), .val (.int p2), .val (.int p3), .val (.int p4), .val (.int (Int32.ofNat n)), .val (.int (1 : Int32)), .val (.int (1 : Int32)), .val (.int (Int32.ofNat a)), .val (.int (Int32.ofNat b)), .val (.int (Int32.ofNat c)), .val (.int (Int32.ofNat d)), .val (.ref a71), .val (.ref a82), .val (.int (1 : Int32)), .val (.int (1 : Int32)), .unset, .unset, .unset, .unset, .unset, .unset, .unset, .unset, .unset, .unset, .unset, .unset, .unset, .unset, .unset] []
        refine C.aload (q := 147) at_145 rfl rfl rfl ?_
        refine C.iload (q := 149) at_147 rfl rfl ?_
        refine C.callV (q := 152) 0 0 [.int (Int32.ofNat c)] [] at_149 (hw _ (List.mem_of_getElem? (i := 34) rfl)) (hw _ (List.mem_of_getElem? (i := 35) rfl)) (hw _ (List.mem_of_getElem? (i := 36) rfl)) (hw _ (List.mem_of_getElem? (i := 37) rfl)) (hw _ (List.mem_of_getElem? (i := 3) rfl)) (hw _ (List.mem_of_getElem? (i := 38) rfl)) (own_m1 l Z a0 n0 hw [] a71 a82 r0 r1 r2 r3 r4 r5 r6 (own_split (own_mk (own_mk (own_z n) (Int32.ofNat a)) (Int32.ofNat b))) (Int32.ofNat c) f3) (by decide) (by decide) (by decide) own_pd7 rfl rfl rfl rfl (Nat.le_of_eq rfl) (by decide) (by decide) rfl ?_
        rintro _ _ ⟨rfl, hE⟩
        rw [hE, gC]
        show G 9 37 (own_HT a71 a82 r0 r1 r2 r3 r4 r5 r6 (own_mk (own_split (own_mk (own_mk (own_z n) (Int32.ofNat a)) (Int32.ofNat b))) (Int32.ofNat c))) 152 [.val (.int p0), .val (.int p1), .val (.int p2), .val (.int p3), .val (.int p4), .val (.int (Int32.ofNat n)), .val (.int (1 : Int32)), .val (.int (1 : Int32)), .val (.int (Int32.ofNat a)), .val (.int (Int32.ofNat b)), .val (.int (Int32.ofNat c)), .val (.int (Int32.ofNat d)), .val (.ref a71), .val (.ref a82), .val (.int (1 : Int32)), .val (.int (1 : Int32)), .unset, .unset, .unset, .unset, .unset, .unset, .unset, .unset, .unset, .unset, .unset, .unset, .unset, .unset, .unset] [.int (1 : Int32)]
        refine C.istore (q := 154) (ls' := [.val (.int p0), .val (.int p1), .val (.int p2), .val (.int p3), .val (.int p4), .val (.int (Int32.ofNat n)), .val (.int (1 : Int32)), .val (.int (1 : Int32)), .val (.int (Int32.ofNat a)), .val (.int (Int32.ofNat b)), .val (.int (Int32.ofNat c)), .val (.int (Int32.ofNat d)), .val (.ref a71), .val (.ref a82), .val (.int (1 : Int32)), .val (.int (1 : Int32)), .val (.int (1 : Int32)), .unset, .unset, .unset, .unset, .unset, .unset, .unset, .unset, .unset, .unset, .unset, .unset, .unset, .unset]) at_152 rfl rfl ?_
        refine C.iload (q := 156) at_154 rfl rfl ?_
        refine C.ifEq (q := 189) (q' := 159) at_156 (by decide) (by decide) rfl (fun h156 => absurd h156 (by decide)) (fun h156 => ?_)
        refine C.aload (q := 161) at_159 rfl rfl rfl ?_
        refine C.iload (q := 163) at_161 rfl rfl ?_
        refine C.callV (q := 166) 0 0 [.int (Int32.ofNat d)] [] at_163 (hw _ (List.mem_of_getElem? (i := 34) rfl)) (hw _ (List.mem_of_getElem? (i := 35) rfl)) (hw _ (List.mem_of_getElem? (i := 36) rfl)) (hw _ (List.mem_of_getElem? (i := 37) rfl)) (hw _ (List.mem_of_getElem? (i := 3) rfl)) (hw _ (List.mem_of_getElem? (i := 38) rfl)) (own_m1 l Z a0 n0 hw [] a71 a82 r0 r1 r2 r3 r4 r5 r6 (own_mk (own_split (own_mk (own_mk (own_z n) (Int32.ofNat a)) (Int32.ofNat b))) (Int32.ofNat c)) (Int32.ofNat d) f4) (by decide) (by decide) (by decide) own_pd7 rfl rfl rfl rfl (Nat.le_of_eq rfl) (by decide) (by decide) rfl ?_
        rintro _ _ ⟨rfl, hE⟩
        rw [hE, gD]
        show G 9 37 (own_HT a71 a82 r0 r1 r2 r3 r4 r5 r6 (own_mk (own_mk (own_split (own_mk (own_mk (own_z n) (Int32.ofNat a)) (Int32.ofNat b))) (Int32.ofNat c)) (Int32.ofNat d))) 166 [.val (.int p0), .val (.int p1), .val (.int p2), .val (.int p3), .val (.int p4), .val (.int (Int32.ofNat n)), .val (.int (1 : Int32)), .val (.int (1 : Int32)), .val (.int (Int32.ofNat a)), .val (.int (Int32.ofNat b)), .val (.int (Int32.ofNat c)), .val (.int (Int32.ofNat d)), .val (.ref a71), .val (.ref a82), .val (.int (1 : Int32)), .val (.int (1 : Int32)), .val (.int (1 : Int32)), .unset, .unset, .unset, .unset, .unset, .unset, .unset, .unset, .unset, .unset, .unset, .unset, .unset, .unset] [.int (if (Int32.ofNat d) = (Int32.ofNat c) then (0 : Int32) else (1 : Int32))]
        refine C.iload (q := 168) at_166 rfl rfl ?_
        refine C.iload (q := 170) at_168 rfl rfl ?_
        have J170 : ∀ (zd : Int32), zd = (if (Int32.ofNat d) = (Int32.ofNat c) then (0 : Int32) else (1 : Int32)) → G 9 37 (own_HT a71 a82 r0 r1 r2 r3 r4 r5 r6 (own_mk (own_mk (own_split (own_mk (own_mk (own_z n) (Int32.ofNat a)) (Int32.ofNat b))) (Int32.ofNat c)) (Int32.ofNat d))) 178 [.val (.int p0), .val (.int p1), .val (.int p2), .val (.int p3), .val (.int p4), .val (.int (Int32.ofNat n)), .val (.int (1 : Int32)), .val (.int (1 : Int32)), .val (.int (Int32.ofNat a)), .val (.int (Int32.ofNat b)), .val (.int (Int32.ofNat c)), .val (.int (Int32.ofNat d)), .val (.ref a71), .val (.ref a82), .val (.int (1 : Int32)), .val (.int (1 : Int32)), .val (.int (1 : Int32)), .unset, .unset, .unset, .unset, .unset, .unset, .unset, .unset, .unset, .unset, .unset, .unset, .unset, .unset] [.int zd, .int (if (Int32.ofNat d) = (Int32.ofNat c) then (0 : Int32) else (1 : Int32))] := by
          intro zd hzd
          refine C.icmpNe (q := 185) (q' := 181) at_178 (by decide) (by decide) rfl (fun h178 => ?_) (fun h178 => absurd (hzd.symm) h178)
          refine C.iconst (q := 182) (z := (1 : Int32)) at_181 rfl rfl ?_
          refine C.goto (q := 190) at_182 (by decide) (by decide) ?_
          refine C.istore (q := 192) (ls' := [.val (.int p0), .val (.int p1), .val (.int p2), .val (.int p3), .val (.int p4), .val (.int (Int32.ofNat n)), .val (.int (1 : Int32)), .val (.int (1 : Int32)), .val (.int (Int32.ofNat a)), .val (.int (Int32.ofNat b)), .val (.int (Int32.ofNat c)), .val (.int (Int32.ofNat d)), .val (.ref a71), .val (.ref a82), .val (.int (1 : Int32)), .val (.int (1 : Int32)), .val (.int (1 : Int32)), .val (.int (1 : Int32)), .unset, .unset, .unset, .unset, .unset, .unset, .unset, .unset, .unset, .unset, .unset, .unset, .unset]) at_190 rfl rfl ?_
          refine C.aload (q := 194) at_192 rfl rfl rfl ?_
          refine C.iload (q := 196) at_194 rfl rfl ?_
          refine C.callV (q := 199) 0 0 [.int (Int32.ofNat c)] [] at_196 (hw _ (List.mem_of_getElem? (i := 34) rfl)) (hw _ (List.mem_of_getElem? (i := 35) rfl)) (hw _ (List.mem_of_getElem? (i := 36) rfl)) (hw _ (List.mem_of_getElem? (i := 37) rfl)) (hw _ (List.mem_of_getElem? (i := 3) rfl)) (hw _ (List.mem_of_getElem? (i := 38) rfl)) (own_m1 l Z a0 n0 hw [] a71 a82 r0 r1 r2 r3 r4 r5 r6 (own_mk (own_mk (own_split (own_mk (own_mk (own_z n) (Int32.ofNat a)) (Int32.ofNat b))) (Int32.ofNat c)) (Int32.ofNat d)) (Int32.ofNat c) f5) (by decide) (by decide) (by decide) own_pd7 rfl rfl rfl rfl (Nat.le_of_eq rfl) (by decide) (by decide) rfl ?_
          rintro _ _ ⟨rfl, hE⟩
          rw [hE, gC2]
          show G 9 37 (own_HT a71 a82 r0 r1 r2 r3 r4 r5 r6 (own_mk (own_mk (own_mk (own_split (own_mk (own_mk (own_z n) (Int32.ofNat a)) (Int32.ofNat b))) (Int32.ofNat c)) (Int32.ofNat d)) (Int32.ofNat c))) 199 [.val (.int p0), .val (.int p1), .val (.int p2), .val (.int p3), .val (.int p4), .val (.int (Int32.ofNat n)), .val (.int (1 : Int32)), .val (.int (1 : Int32)), .val (.int (Int32.ofNat a)), .val (.int (Int32.ofNat b)), .val (.int (Int32.ofNat c)), .val (.int (Int32.ofNat d)), .val (.ref a71), .val (.ref a82), .val (.int (1 : Int32)), .val (.int (1 : Int32)), .val (.int (1 : Int32)), .val (.int (1 : Int32)), .unset, .unset, .unset, .unset, .unset, .unset, .unset, .unset, .unset, .unset, .unset, .unset, .unset] [.int (0 : Int32)]
          refine C.ifNe (q := 206) (q' := 202) at_199 (by decide) (by decide) rfl (fun h199 => ?_) (fun h199 => absurd (by decide) h199)
          refine C.iconst (q := 203) (z := (1 : Int32)) at_202 rfl rfl ?_
          refine C.goto (q := 207) at_203 (by decide) (by decide) ?_
          refine C.istore (q := 209) (ls' := [.val (.int p0), .val (.int p1), .val (.int p2), .val (.int p3), .val (.int p4), .val (.int (Int32.ofNat n)), .val (.int (1 : Int32)), .val (.int (1 : Int32)), .val (.int (Int32.ofNat a)), .val (.int (Int32.ofNat b)), .val (.int (Int32.ofNat c)), .val (.int (Int32.ofNat d)), .val (.ref a71), .val (.ref a82), .val (.int (1 : Int32)), .val (.int (1 : Int32)), .val (.int (1 : Int32)), .val (.int (1 : Int32)), .val (.int (1 : Int32)), .unset, .unset, .unset, .unset, .unset, .unset, .unset, .unset, .unset, .unset, .unset, .unset]) at_207 rfl rfl ?_
          refine C.aload (q := 211) at_209 rfl rfl rfl ?_
          refine C.aload (q := 213) at_211 rfl rfl rfl ?_
          refine C.callV (q := 216) 0 0 [.ref a82] [] at_213 (hw _ (List.mem_of_getElem? (i := 41) rfl)) (hw _ (List.mem_of_getElem? (i := 42) rfl)) (hw _ (List.mem_of_getElem? (i := 43) rfl)) (hw _ (List.mem_of_getElem? (i := 44) rfl)) (hw _ (List.mem_of_getElem? (i := 3) rfl)) (hw _ (List.mem_of_getElem? (i := 45) rfl)) (own_m8 l Z a0 n0 hw [] a71 a82 r0 r1 r2 r3 r4 r5 r6 (own_mk (own_mk (own_mk (own_split (own_mk (own_mk (own_z n) (Int32.ofNat a)) (Int32.ofNat b))) (Int32.ofNat c)) (Int32.ofNat d)) (Int32.ofNat c)) f6) (by decide) (by decide) (by decide) own_pd8 rfl rfl rfl rfl (Nat.le_of_eq rfl) (by decide) (by decide) rfl ?_
          rintro _ _ ⟨rfl, hE⟩
          rw [hE]
          show G 9 37 (own_HT a71 a82 r0 r1 r2 r3 r4 r5 r6 (own_split (own_mk (own_mk (own_mk (own_split (own_mk (own_mk (own_z n) (Int32.ofNat a)) (Int32.ofNat b))) (Int32.ofNat c)) (Int32.ofNat d)) (Int32.ofNat c)))) 216 [.val (.int p0), .val (.int p1), .val (.int p2), .val (.int p3), .val (.int p4), .val (.int (Int32.ofNat n)), .val (.int (1 : Int32)), .val (.int (1 : Int32)), .val (.int (Int32.ofNat a)), .val (.int (Int32.ofNat b)), .val (.int (Int32.ofNat c)), .val (.int (Int32.ofNat d)), .val (.ref a71), .val (.ref a82), .val (.int (1 : Int32)), .val (.int (1 : Int32)), .val (.int (1 : Int32)), .val (.int (1 : Int32)), .val (.int (1 : Int32)), .unset, .unset, .unset, .unset, .unset, .unset, .unset, .unset, .unset, .unset, .unset, .unset] []
          exact own_tl hw C a71 a82 r0 r1 r2 r3 r4 r5 r6 p0 p1 p2 p3 p4 (1 : Int32) (1 : Int32) n a b c d _ gT
        refine C.icmpEq (q := 177) (q' := 173) at_170 (by decide) (by decide) rfl (fun h170 => ?_) (fun h170 => ?_)
        · refine C.iconst (q := 178) (z := (0 : Int32)) at_177 rfl rfl ?_
          exact J170 _ (if_pos h170).symm
        · refine C.iconst (q := 174) (z := (1 : Int32)) at_173 rfl rfl ?_
          refine C.goto (q := 178) at_174 (by decide) (by decide) ?_
          exact J170 _ (if_neg h170).symm
      refine C.icmpEq (q := 123) (q' := 119) at_116 (by decide) (by decide) rfl (fun h116 => ?_) (fun h116 => ?_)
      · refine C.iconst (q := 124) (z := (0 : Int32)) at_123 rfl rfl ?_
        exact J116 _ (if_pos h116).symm
      · refine C.iconst (q := 120) (z := (1 : Int32)) at_119 rfl rfl ?_
        refine C.goto (q := 124) at_120 (by decide) (by decide) ?_
        exact J116 _ (if_neg h116).symm
set_option maxRecDepth 65536 in
set_option maxHeartbeats 40000000 in
theorem comes_1 {Post : Tables → Env → Array Value → State → Outcome → State → Prop} (hpost : ∀ tb e args s v u, (limb_1_1.after args s (.returned v) u = true ∧ limb_1_2.after args s (.returned v) u = true ∧ True) → FrameEnd s (.returned v) u (Jvm.fieldLocs frame_1_writes args s ++ Jvm.arrayLocs frame_1_arrays args s ++ Jvm.staticLocs frame_1_statics s) 32 192 → Post tb e args s (.returned v) u) :
    ArmFor flags0 classFile x code maxLocals ret World_1 tables_1 room_1 Calls_1 rest_1 Pre_1 Post := by
  intro l hfl _ _ p e ha hc hk s m args below hf hA hF happ hP
  obtain ⟨hcalls, hrest, hpre⟩ := hP
  obtain ⟨-, -, -, hnamed, -, -, -, hat⟩ := (Spec.applies_iff hf).mp happ
  obtain ⟨hg, hn⟩ := and_e (Cond.before_iff.mp (show (Jvm.Cond.and given_1 narrow_1).before args s = true from hpre))
  obtain ⟨hcnt, g0⟩ := and_e hg
  obtain ⟨q0, g1⟩ := and_e g0
  obtain ⟨q1, g2⟩ := and_e g1
  obtain ⟨q2, g3⟩ := and_e g2
  obtain ⟨q3, g4⟩ := and_e g3
  obtain ⟨w0, w1, w2, w3, w4, rfl⟩ : ∃ w0 w1 w2 w3 w4 : Value, args = #[w0, w1, w2, w3, w4] := by
    have hs : args.size = 5 := by simpa [Cond.value, given_1] using hcnt
    obtain ⟨L⟩ := args
    match L, hs with
    | [w0, w1, w2, w3, w4], _ => exact ⟨w0, w1, w2, w3, w4, rfl⟩
  have hw := fun d (hd : d ∈ tables_1) => atoms_spec (ws := Jvm.Cond.code x code maxLocals ret :: tables_1) hat d (List.mem_cons_of_mem _ hd)
  obtain ⟨i0, e0⟩ := is_v q0
  obtain rfl : w0 = (.int i0) := Option.some.inj e0
  obtain ⟨i1, e1⟩ := is_v q1
  obtain rfl : w1 = (.int i1) := Option.some.inj e1
  obtain ⟨i2, e2⟩ := is_v q2
  obtain rfl : w2 = (.int i2) := Option.some.inj e2
  obtain ⟨i3, e3⟩ := is_v q3
  obtain rfl : w3 = (.int i3) := Option.some.inj e3
  obtain ⟨i4, e4⟩ := is_v g4
  obtain rfl : w4 = (.int i4) := Option.some.inj e4
  obtain ⟨n, o, h1, h2, h3, _, L, rfl, ⟨N, H', hH', hv⟩, hq⟩ := own_claw l s _ s.heap.size hw tables_1 i0 i1 i2 i3 i4  s.heap ⟨Nat.le_refl _, fun i j a o o' z => by simp at z, fun i a o z => by simp at z⟩ p e ha hc hk s m _ below hf ((Spec.applies_iff_loose hf).mp happ).1 ⟨rfl, State.Warmed39.refl s, rfl⟩ trivial
  cases hv
  refine ⟨n, _, h1, h2, h3, hpost _ _ _ _ _ _ ⟨Cond.after_iff.mpr rfl, Cond.after_iff.mpr (eq_i res_at (Term.int_eval (1)) rfl), trivial⟩ ⟨hq.1, hq.2.1, (hq.2.2.sift fun y hy => Or.inr (N y hy)).mono (by decide) (by decide)⟩⟩
theorem main_1_1 : Claimed_1_1 := comes_1 fun _ _ _ _ _ _ h hF => ⟨h.1, hF⟩
theorem main_1_2 : Claimed_1_2 := comes_1 fun _ _ _ _ _ _ h hF => ⟨h.2.1, hF⟩
end Jvm.Pilot.@@N@@
namespace Jvm.Pilot.@@N@@
open Jvm Jvm.ClassFile Sem Op Lib Jvm.Free Jvm.Stand Jvm.Pilot.@@N@@.Jvm.D
/-! MADE BY PROGRAM (witnessworld.py) out of the Statement's table words and the real class files: 10 classes; the members and pool entries that the words name. The judged class is class 2, her method 2. -/
namespace start1
open Jvm.ClassFile
def u (s : String) : CpInfo := .utf8 (stringToUtf16 s)
/-- a pool by its gaps: so many unusable entries, then the entry; so many at the end -/
def gap : Nat → List CpInfo → List CpInfo
  | 0, r => r
  | n + 1, r => .unusable :: gap n r
def poolList (es : List (Nat × CpInfo)) (last : Nat) : List CpInfo := es.foldr (fun e r => gap e.1 (e.2 :: r)) (gap last [])
def pool (es : List (Nat × CpInfo)) (last : Nat) : Array CpInfo := ⟨poolList es last⟩
def fileOf (pool : Array CpInfo) (this : Nat) (attrs : Array Attribute := #[]) (ms : Array MethodInfo := #[]) (fl : Nat := 33) (sup : Nat := 0) (ifs : Array Nat := #[]) (fds : Array FieldInfo := #[]) : ClassFile where
  minorVersion := 0
  majorVersion := 65
  constantPool := pool
  accessFlags := fl
  thisClass := this
  superClass := sup
  interfaces := ifs
  fields := fds
  methods := ms
  attributes := attrs
def plain (name : String) (sup : Option ClassId) : Class where
  name := name
  kind := .ordinary
  loader := none
  accessFlags := 33
  super := sup
  interfaces := #[]
  cf := none
  fields := #[]
  methods := #[]
  instanceTypes := #[]
  staticTypes := #[]
  resolved := #[]
  callSites := []
  init := .initialized
  statics := none
  mirror := none

def pool0 : Array CpInfo := pool [(5, u "<init>"), (0, u "()V"), (1, .class_ 10), (1, u "java/lang/Object")] 113

def k0c0 : Code := { maxStack := 0, maxLocals := 1, code := object_method_1_code, exceptionTable := #[], attributes := #[] }
def k0m0 : Method := { name := "<init>", desc := "()V", sig := { parameters := [], returnType := none }, accessFlags := 1, code := some k0c0 }
/-- java/lang/Object -/
def k0 : Class := { plain "java/lang/Object" none with
  accessFlags := 33
  interfaces := #[]
  cf := some (fileOf pool0 8 #[] #[{ accessFlags := 1, nameIndex := 5, descriptorIndex := 6, attributes := #[] }] 33 0 #[] #[])
  fields := #[]
  methods := #[k0m0]
  instanceTypes := #[]
  staticTypes := #[]
  resolved := Array.replicate 124 none
  statics := none }

def pool1 : Array CpInfo := pool [(1, .class_ 2), (0, u "com/example/terms_to_transitions/termstotransitions/equivalence/RefinablePartition$SplitListener"), (0, .class_ 4), (0, u "java/lang/Object"), (0, u "splitOff"), (0, u "(II)V"), (3, .class_ 11), (0, u "com/example/terms_to_transitions/termstotransitions/equivalence/RefinablePartition")] 2

def k1m0 : Method := { name := "splitOff", desc := "(II)V", sig := { parameters := [.int, .int], returnType := none }, accessFlags := 1025, code := none }
/-- com/example/terms_to_transitions/termstotransitions/equivalence/RefinablePartition$SplitListener -/
def k1 : Class := { plain "com/example/terms_to_transitions/termstotransitions/equivalence/RefinablePartition$SplitListener" (some 0) with
  accessFlags := 1536
  interfaces := #[]
  cf := some (fileOf pool1 1 #[.nestHost 10] #[{ accessFlags := 1025, nameIndex := 5, descriptorIndex := 6, attributes := #[] }] 1536 3 #[] #[])
  fields := #[]
  methods := #[k1m0]
  instanceTypes := #[]
  staticTypes := #[]
  resolved := Array.replicate 14 none
  statics := none }

def pool2 : Array CpInfo := pool [(1, .methodref 2 3), (0, .class_ 4), (0, .nameAndType 5 6), (0, u "java/lang/Object"), (0, u "<init>"), (0, u "()V"), (0, .integer 2147483647), (0, .class_ 9), (0, u "com/example/terms_to_transitions/termstotransitions/equivalence/RefinablePartition"), (0, .methodref 8 11), (0, .nameAndType 5 12), (0, u "(I)V"), (0, .class_ 14), (0, u "com/example/terms_to_transitions/termstotransitions/equivalence/RefinablePartitionMarkPinLaw"), (0, .methodref 13 3), (0, .methodref 8 17), (0, .nameAndType 18 19), (0, u "mark"), (0, u "(I)Z"), (0, .methodref 8 21), (0, .nameAndType 22 23), (0, u "split"), (0, u "(Lcom/example/terms_to_transitions/termstotransitions/equivalence/RefinablePartition$SplitListener;)V"), (0, .methodref 8 25), (0, .nameAndType 26 27), (0, u "blockOf"), (0, u "(I)I"), (0, .methodref 13 29), (0, .nameAndType 30 31), (0, u "sig"), (0, u "(IIIZIIZ)I"), (0, .methodref 13 33), (0, .nameAndType 34 35), (0, u "agree"), (0, u "(IIIIZ)Z"), (0, .methodref 8 37), (0, .nameAndType 38 39), (0, u "blockCount"), (0, u "()I"), (0, .class_ 41), (0, u "com/example/terms_to_transitions/termstotransitions/equivalence/RefinablePartition$SplitListener"), (2, u "splitOff"), (0, u "(II)V"), (0, u "law"), (0, u "(IIIII)Z")] 5

def k2c0 : Code := { maxStack := 1, maxLocals := 1, code := method_1_code, exceptionTable := #[], attributes := #[] }
def k2m0 : Method := { name := "<init>", desc := "()V", sig := { parameters := [], returnType := none }, accessFlags := 1, code := some k2c0 }
def k2c1 : Code := { maxStack := 0, maxLocals := 3, code := method_2_code, exceptionTable := #[], attributes := #[] }
def k2m1 : Method := { name := "splitOff", desc := "(II)V", sig := { parameters := [.int, .int], returnType := none }, accessFlags := 1, code := some k2c1 }
def k2c2 : Code := { maxStack := 7, maxLocals := 31, code := code, exceptionTable := #[], attributes := #[] }
def k2m2 : Method := { name := "law", desc := "(IIIII)Z", sig := { parameters := [.int, .int, .int, .int, .int], returnType := some .boolean }, accessFlags := 9, code := some k2c2 }
def k2c3 : Code := { maxStack := 2, maxLocals := 8, code := method_4_code, exceptionTable := #[], attributes := #[] }
def k2m3 : Method := { name := "sig", desc := "(IIIZIIZ)I", sig := { parameters := [.int, .int, .int, .boolean, .int, .int, .boolean], returnType := some .int }, accessFlags := 10, code := some k2c3 }
def k2c4 : Code := { maxStack := 3, maxLocals := 5, code := method_5_code, exceptionTable := #[], attributes := #[] }
def k2m4 : Method := { name := "agree", desc := "(IIIIZ)Z", sig := { parameters := [.int, .int, .int, .int, .boolean], returnType := some .boolean }, accessFlags := 10, code := some k2c4 }
/-- com/example/terms_to_transitions/termstotransitions/equivalence/RefinablePartitionMarkPinLaw -/
def k2 : Class := { plain "com/example/terms_to_transitions/termstotransitions/equivalence/RefinablePartitionMarkPinLaw" (some 0) with
  accessFlags := 49
  interfaces := #[1]
  cf := some (fileOf pool2 13 #[] #[{ accessFlags := 1, nameIndex := 5, descriptorIndex := 6, attributes := #[] }, { accessFlags := 1, nameIndex := 44, descriptorIndex := 45, attributes := #[] }, { accessFlags := 9, nameIndex := 46, descriptorIndex := 47, attributes := #[] }, { accessFlags := 10, nameIndex := 30, descriptorIndex := 31, attributes := #[] }, { accessFlags := 10, nameIndex := 34, descriptorIndex := 35, attributes := #[] }] 49 2 #[40] #[])
  fields := #[]
  methods := #[k2m0, k2m1, k2m2, k2m3, k2m4]
  instanceTypes := #[]
  staticTypes := #[]
  resolved := Array.replicate 53 none
  statics := none }

def pool3 : Array CpInfo := pool [(1, .methodref 2 3), (0, .class_ 4), (0, .nameAndType 5 6), (0, u "java/lang/Object"), (0, u "<init>"), (0, u "()V"), (0, .fieldref 8 9), (0, .class_ 10), (0, .nameAndType 11 12), (0, u "com/example/terms_to_transitions/termstotransitions/equivalence/RefinablePartition"), (0, u "elements"), (0, u "[I"), (0, .fieldref 8 14), (0, .nameAndType 15 12), (0, u "locations"), (0, .fieldref 8 17), (0, .nameAndType 18 12), (0, u "blocks"), (0, .fieldref 8 20), (0, .nameAndType 21 12), (0, u "starts"), (0, .fieldref 8 23), (0, .nameAndType 24 12), (0, u "ends"), (0, .fieldref 8 26), (0, .nameAndType 27 12), (0, u "markedEnds"), (0, .fieldref 8 29), (0, .nameAndType 30 12), (0, u "touched"), (0, .fieldref 8 32), (0, .nameAndType 33 34), (0, u "blockCount"), (0, u "I"), (0, .fieldref 8 36), (0, .nameAndType 37 34), (0, u "touchedCount"), (0, .interfaceMethodref 39 40), (0, .class_ 41), (0, .nameAndType 42 43), (0, u "com/example/terms_to_transitions/termstotransitions/equivalence/RefinablePartition$SplitListener"), (0, u "splitOff"), (0, u "(II)V"), (0, u "(I)V"), (4, u "()I"), (0, u "blockOf"), (0, u "(I)I"), (4, u "mark"), (0, u "(I)Z"), (0, u "split"), (0, u "(Lcom/example/terms_to_transitions/termstotransitions/equivalence/RefinablePartition$SplitListener;)V")] 5

def k3c0 : Code := { maxStack := 3, maxLocals := 3, code := prog_7_method_1_code, exceptionTable := #[], attributes := #[] }
def k3m0 : Method := { name := "<init>", desc := "(I)V", sig := { parameters := [.int], returnType := none }, accessFlags := 0, code := some k3c0 }
def k3c1 : Code := { maxStack := 1, maxLocals := 1, code := prog_7_method_3_code, exceptionTable := #[], attributes := #[] }
def k3m1 : Method := { name := "blockCount", desc := "()I", sig := { parameters := [], returnType := some .int }, accessFlags := 0, code := some k3c1 }
def k3c2 : Code := { maxStack := 2, maxLocals := 2, code := prog_7_method_4_code, exceptionTable := #[], attributes := #[] }
def k3m2 : Method := { name := "blockOf", desc := "(I)I", sig := { parameters := [.int], returnType := some .int }, accessFlags := 0, code := some k3c2 }
def k3c3 : Code := { maxStack := 4, maxLocals := 6, code := prog_7_method_9_code, exceptionTable := #[], attributes := #[] }
def k3m3 : Method := { name := "mark", desc := "(I)Z", sig := { parameters := [.int], returnType := some .boolean }, accessFlags := 0, code := some k3c3 }
def k3c4 : Code := { maxStack := 4, maxLocals := 9, code := prog_7_method_10_code, exceptionTable := #[], attributes := #[] }
def k3m4 : Method := { name := "split", desc := "(Lcom/example/terms_to_transitions/termstotransitions/equivalence/RefinablePartition$SplitListener;)V", sig := { parameters := [(.object "com/example/terms_to_transitions/termstotransitions/equivalence/RefinablePartition$SplitListener")], returnType := none }, accessFlags := 0, code := some k3c4 }
/-- com/example/terms_to_transitions/termstotransitions/equivalence/RefinablePartition -/
def k3 : Class := { plain "com/example/terms_to_transitions/termstotransitions/equivalence/RefinablePartition" (some 0) with
  accessFlags := 48
  interfaces := #[]
  cf := some (fileOf pool3 8 #[.nestMembers #[39]] #[{ accessFlags := 0, nameIndex := 5, descriptorIndex := 44, attributes := #[] }, { accessFlags := 0, nameIndex := 33, descriptorIndex := 49, attributes := #[] }, { accessFlags := 0, nameIndex := 50, descriptorIndex := 51, attributes := #[] }, { accessFlags := 0, nameIndex := 56, descriptorIndex := 57, attributes := #[] }, { accessFlags := 0, nameIndex := 58, descriptorIndex := 59, attributes := #[] }] 48 2 #[] #[{ accessFlags := 18, nameIndex := 11, descriptorIndex := 12, attributes := #[] }, { accessFlags := 18, nameIndex := 15, descriptorIndex := 12, attributes := #[] }, { accessFlags := 18, nameIndex := 18, descriptorIndex := 12, attributes := #[] }, { accessFlags := 18, nameIndex := 21, descriptorIndex := 12, attributes := #[] }, { accessFlags := 18, nameIndex := 24, descriptorIndex := 12, attributes := #[] }, { accessFlags := 18, nameIndex := 27, descriptorIndex := 12, attributes := #[] }, { accessFlags := 18, nameIndex := 30, descriptorIndex := 12, attributes := #[] }, { accessFlags := 2, nameIndex := 37, descriptorIndex := 34, attributes := #[] }, { accessFlags := 2, nameIndex := 33, descriptorIndex := 34, attributes := #[] }])
  fields := #[{ name := "elements", type := (.array .int), accessFlags := 18, slot := 0, constantValue := 0 }, { name := "locations", type := (.array .int), accessFlags := 18, slot := 1, constantValue := 0 }, { name := "blocks", type := (.array .int), accessFlags := 18, slot := 2, constantValue := 0 }, { name := "starts", type := (.array .int), accessFlags := 18, slot := 3, constantValue := 0 }, { name := "ends", type := (.array .int), accessFlags := 18, slot := 4, constantValue := 0 }, { name := "markedEnds", type := (.array .int), accessFlags := 18, slot := 5, constantValue := 0 }, { name := "touched", type := (.array .int), accessFlags := 18, slot := 6, constantValue := 0 }, { name := "touchedCount", type := .int, accessFlags := 2, slot := 7, constantValue := 0 }, { name := "blockCount", type := .int, accessFlags := 2, slot := 8, constantValue := 0 }]
  methods := #[k3m0, k3m1, k3m2, k3m3, k3m4]
  instanceTypes := #[(.array .int), (.array .int), (.array .int), (.array .int), (.array .int), (.array .int), (.array .int), .int, .int]
  staticTypes := #[]
  resolved := Array.replicate 65 none
  statics := none }

def pool4 : Array CpInfo := pool [(1, u "java/lang/Cloneable"), (0, .class_ 1), (0, u "java/lang/Object"), (0, .class_ 3)] 3

/-- java/lang/Cloneable -/
def k4 : Class := { plain "java/lang/Cloneable" (some 0) with
  accessFlags := 1537
  interfaces := #[]
  cf := some (fileOf pool4 2 #[] #[] 1537 4 #[] #[])
  fields := #[]
  methods := #[]
  instanceTypes := #[]
  staticTypes := #[]
  resolved := Array.replicate 8 none
  statics := none }

def pool5 : Array CpInfo := pool [(1, u "java/io/Serializable"), (0, .class_ 1), (0, u "java/lang/Object"), (0, .class_ 3)] 3

/-- java/io/Serializable -/
def k5 : Class := { plain "java/io/Serializable" (some 0) with
  accessFlags := 1537
  interfaces := #[]
  cf := some (fileOf pool5 2 #[] #[] 1537 4 #[] #[])
  fields := #[]
  methods := #[]
  instanceTypes := #[]
  staticTypes := #[]
  resolved := Array.replicate 8 none
  statics := none }

/-- the primitive byte -/
def k6 : Class := { plain "byte" none with kind := .primitive 'B', accessFlags := 0x411 }
/-- [B -/
def k7 : Class := { plain "[B" (some 0) with kind := .array 6 .byte, interfaces := #[4, 5], accessFlags := 1041 }

/-- the primitive int -/
def k8 : Class := { plain "int" none with kind := .primitive 'I', accessFlags := 0x411 }
/-- [I -/
def k9 : Class := { plain "[I" (some 0) with kind := .array 8 .int, interfaces := #[4, 5], accessFlags := 1041 }

def heap : Heap := #[]
def classes : Array Class := #[k0, k1, k2, k3, k4, k5, k6, k7, k8, k9]
def interned : List (Array UInt16 × Addr) := []
def slotsUsed : Nat := 0
def theMethod : MethodId := ⟨2, 2⟩
def args0 : Array Value := #[.int 5, .int 7, .int 1, .int 2, .int 3]
def aboutOver (below : List Frame) : State where
  vm := { classes := classes, interned := interned.toArray }
  heap := heap
  slotsUsed := slotsUsed
  threads := #[{ frames := .invoking theMethod args0 :: below }]
def below0 : List Frame := [.native { method := ⟨0, 0⟩, args := #[] }]
def about1 : State := aboutOver below0
def p0 : Program := .bare "" "" ""
def e0 : Env := launch0.env 0 0 0
theorem w_frames : about1.frames = Frame.invoking theMethod args0 :: below0 := rfl
set_option maxRecDepth 65536 in
theorem w_args : argsFit about1.vm theMethod args0 = true := by decide +kernel
set_option maxRecDepth 65536 in
theorem w_heap : heapFits about1 = true := by decide +kernel
set_option maxRecDepth 65536 in
theorem w_runnable : about1.curStatus? = some .runnable := by decide +kernel
set_option maxRecDepth 65536 in
theorem w_alone : about1.alone = true := by decide +kernel
set_option maxRecDepth 65536 in
theorem w_named : about1.methodNamed? x = some theMethod := by decide +kernel
set_option maxRecDepth 65536 in
theorem w_hears : about1.hears theMethod below0 = true := by decide +kernel
set_option maxRecDepth 65536 in
theorem w_ripe : about1.ripe theMethod args0 below0 = true := by decide +kernel
theorem w_running : about1.status = .running := rfl
set_option maxRecDepth 65536 in
theorem w_room : about1.hasRoom e0.platform room_1 = true :=
  launch0.hasRoom_least _ room_1 (by decide +kernel) (by decide +kernel) (by decide +kernel) (by decide +kernel) (by decide +kernel) (by decide +kernel)
theorem allAtoms_all (ts : List Jvm.Cond) (a : Array Jvm.Value) (st : Jvm.State) : (allAtoms ts).before a st = ts.all (fun c => c.before a st) := by
  induction ts with
  | nil => rfl
  | cons c t ih =>
    show (Jvm.Cond.and c (allAtoms t)).before a st = _
    rw [Jvm.Cond.before_and, ih, List.all_cons]
def words1 : List Jvm.Cond := Jvm.Cond.code x code maxLocals ret :: tables_1
/-- a 'code' word, met by the world's own term for the bytes: nothing is compared byte by byte -/
theorem code_word {y : MethodName} {bytes : ByteArray} {mx : Nat} {rt : Option FieldType} {a : Array Value} {s : State} {m : MethodId} {meth : Method} {c : Code} (h1 : s.methodNamed? y = some m) (h2 : s.vm.method? m = some meth) (h3 : meth.code = some c) (h4 : c.code = bytes)
    (h5 : (c.maxLocals == mx && c.exceptionTable.isEmpty && decide (c.maxStack ≤ mostOperands) && decide (meth.sig.returnType = rt) && !meth.locks && decide (parseMethodDescriptor y.desc = some meth.sig)) = true) : (Jvm.Cond.code y bytes mx rt).before a s = true := by
  simp only [Bool.and_eq_true, beq_iff_eq, Bool.not_eq_true', decide_eq_true_eq] at h5
  obtain ⟨⟨⟨⟨⟨g1, g2⟩, g3⟩, g4⟩, g5⟩, g6⟩ := h5
  simp [Cond.before, Cond.holds, Cond.value, h1, h2, h3, h4, g1, g2, g3, g4, g5, g6]
def isCode : Jvm.Cond → Bool
  | .code _ _ _ _ => true
  | _ => false
theorem all_split {L : List Jvm.Cond} {P : Jvm.Cond → Bool} (h1 : L.all (fun c => isCode c || P c) = true) (h2 : ∀ c ∈ L.filter isCode, P c = true) : L.all P = true := by
  refine List.all_eq_true.mpr fun c hc => ?_
  have h := List.all_eq_true.mp h1 c hc
  rcases Bool.eq_false_or_eq_true (isCode c) with hi | hi
  · exact h2 c (List.mem_filter.mpr ⟨hc, hi⟩)
  · simpa [hi] using h
set_option maxRecDepth 65536 in
theorem w_c0 : (Jvm.Cond.code x code maxLocals ret).before args0 about1 = true := code_word (m := ⟨2, 2⟩) (meth := k2m2) (c := k2c2) (by decide +kernel) rfl rfl rfl (by decide +kernel)
set_option maxRecDepth 65536 in
theorem w_c1 : (Jvm.Cond.code ({ cls := "com/example/terms_to_transitions/termstotransitions/equivalence/RefinablePartition", name := "<init>", desc := "(I)V" } : Jvm.MethodName) prog_7_method_1_code (3 : Nat) (Option.none : Option Jvm.ClassFile.FieldType)).before args0 about1 = true := code_word (m := ⟨3, 0⟩) (meth := k3m0) (c := k3c0) (by decide +kernel) rfl rfl rfl (by decide +kernel)
set_option maxRecDepth 65536 in
theorem w_c2 : (Jvm.Cond.code ({ cls := "java/lang/Object", name := "<init>", desc := "()V" } : Jvm.MethodName) object_method_1_code (1 : Nat) (Option.none : Option Jvm.ClassFile.FieldType)).before args0 about1 = true := code_word (m := ⟨0, 0⟩) (meth := k0m0) (c := k0c0) (by decide +kernel) rfl rfl rfl (by decide +kernel)
set_option maxRecDepth 65536 in
theorem w_c3 : (Jvm.Cond.code ({ cls := "com/example/terms_to_transitions/termstotransitions/equivalence/RefinablePartitionMarkPinLaw", name := "<init>", desc := "()V" } : Jvm.MethodName) method_1_code (1 : Nat) (Option.none : Option Jvm.ClassFile.FieldType)).before args0 about1 = true := code_word (m := ⟨2, 0⟩) (meth := k2m0) (c := k2c0) (by decide +kernel) rfl rfl rfl (by decide +kernel)
set_option maxRecDepth 65536 in
theorem w_c4 : (Jvm.Cond.code ({ cls := "com/example/terms_to_transitions/termstotransitions/equivalence/RefinablePartition", name := "mark", desc := "(I)Z" } : Jvm.MethodName) prog_7_method_9_code (6 : Nat) (Option.some Jvm.ClassFile.FieldType.boolean)).before args0 about1 = true := code_word (m := ⟨3, 3⟩) (meth := k3m3) (c := k3c3) (by decide +kernel) rfl rfl rfl (by decide +kernel)
set_option maxRecDepth 65536 in
theorem w_c5 : (Jvm.Cond.code ({ cls := "com/example/terms_to_transitions/termstotransitions/equivalence/RefinablePartition", name := "split", desc := "(Lcom/example/terms_to_transitions/termstotransitions/equivalence/RefinablePartition$SplitListener;)V" } : Jvm.MethodName) prog_7_method_10_code (9 : Nat) (Option.none : Option Jvm.ClassFile.FieldType)).before args0 about1 = true := code_word (m := ⟨3, 4⟩) (meth := k3m4) (c := k3c4) (by decide +kernel) rfl rfl rfl (by decide +kernel)
set_option maxRecDepth 65536 in
theorem w_c6 : (Jvm.Cond.code ({ cls := "com/example/terms_to_transitions/termstotransitions/equivalence/RefinablePartition", name := "blockOf", desc := "(I)I" } : Jvm.MethodName) prog_7_method_4_code (2 : Nat) (Option.some Jvm.ClassFile.FieldType.int)).before args0 about1 = true := code_word (m := ⟨3, 2⟩) (meth := k3m2) (c := k3c2) (by decide +kernel) rfl rfl rfl (by decide +kernel)
set_option maxRecDepth 65536 in
theorem w_c7 : (Jvm.Cond.code ({ cls := "com/example/terms_to_transitions/termstotransitions/equivalence/RefinablePartitionMarkPinLaw", name := "sig", desc := "(IIIZIIZ)I" } : Jvm.MethodName) method_4_code (8 : Nat) (Option.some Jvm.ClassFile.FieldType.int)).before args0 about1 = true := code_word (m := ⟨2, 3⟩) (meth := k2m3) (c := k2c3) (by decide +kernel) rfl rfl rfl (by decide +kernel)
set_option maxRecDepth 65536 in
theorem w_c8 : (Jvm.Cond.code ({ cls := "com/example/terms_to_transitions/termstotransitions/equivalence/RefinablePartitionMarkPinLaw", name := "agree", desc := "(IIIIZ)Z" } : Jvm.MethodName) method_5_code (5 : Nat) (Option.some Jvm.ClassFile.FieldType.boolean)).before args0 about1 = true := code_word (m := ⟨2, 4⟩) (meth := k2m4) (c := k2c4) (by decide +kernel) rfl rfl rfl (by decide +kernel)
set_option maxRecDepth 65536 in
theorem w_c9 : (Jvm.Cond.code ({ cls := "com/example/terms_to_transitions/termstotransitions/equivalence/RefinablePartition", name := "blockCount", desc := "()I" } : Jvm.MethodName) prog_7_method_3_code (1 : Nat) (Option.some Jvm.ClassFile.FieldType.int)).before args0 about1 = true := code_word (m := ⟨3, 1⟩) (meth := k3m1) (c := k3c1) (by decide +kernel) rfl rfl rfl (by decide +kernel)
set_option maxRecDepth 65536 in
theorem w_c10 : (Jvm.Cond.code ({ cls := "com/example/terms_to_transitions/termstotransitions/equivalence/RefinablePartitionMarkPinLaw", name := "splitOff", desc := "(II)V" } : Jvm.MethodName) method_2_code (3 : Nat) (Option.none : Option Jvm.ClassFile.FieldType)).before args0 about1 = true := code_word (m := ⟨2, 1⟩) (meth := k2m1) (c := k2c1) (by decide +kernel) rfl rfl rfl (by decide +kernel)
def codes1 : List Jvm.Cond := [Jvm.Cond.code x code maxLocals ret, Jvm.Cond.code ({ cls := "com/example/terms_to_transitions/termstotransitions/equivalence/RefinablePartition", name := "<init>", desc := "(I)V" } : Jvm.MethodName) prog_7_method_1_code (3 : Nat) (Option.none : Option Jvm.ClassFile.FieldType), Jvm.Cond.code ({ cls := "java/lang/Object", name := "<init>", desc := "()V" } : Jvm.MethodName) object_method_1_code (1 : Nat) (Option.none : Option Jvm.ClassFile.FieldType), Jvm.Cond.code ({ cls := "com/example/terms_to_transitions/termstotransitions/equivalence/RefinablePartitionMarkPinLaw", name := "<init>", desc := "()V" } : Jvm.MethodName) method_1_code (1 : Nat) (Option.none : Option Jvm.ClassFile.FieldType), Jvm.Cond.code ({ cls := "com/example/terms_to_transitions/termstotransitions/equivalence/RefinablePartition", name := "mark", desc := "(I)Z" } : Jvm.MethodName) prog_7_method_9_code (6 : Nat) (Option.some Jvm.ClassFile.FieldType.boolean), Jvm.Cond.code ({ cls := "com/example/terms_to_transitions/termstotransitions/equivalence/RefinablePartition", name := "split", desc := "(Lcom/example/terms_to_transitions/termstotransitions/equivalence/RefinablePartition$SplitListener;)V" } : Jvm.MethodName) prog_7_method_10_code (9 : Nat) (Option.none : Option Jvm.ClassFile.FieldType), Jvm.Cond.code ({ cls := "com/example/terms_to_transitions/termstotransitions/equivalence/RefinablePartition", name := "blockOf", desc := "(I)I" } : Jvm.MethodName) prog_7_method_4_code (2 : Nat) (Option.some Jvm.ClassFile.FieldType.int), Jvm.Cond.code ({ cls := "com/example/terms_to_transitions/termstotransitions/equivalence/RefinablePartitionMarkPinLaw", name := "sig", desc := "(IIIZIIZ)I" } : Jvm.MethodName) method_4_code (8 : Nat) (Option.some Jvm.ClassFile.FieldType.int), Jvm.Cond.code ({ cls := "com/example/terms_to_transitions/termstotransitions/equivalence/RefinablePartitionMarkPinLaw", name := "agree", desc := "(IIIIZ)Z" } : Jvm.MethodName) method_5_code (5 : Nat) (Option.some Jvm.ClassFile.FieldType.boolean), Jvm.Cond.code ({ cls := "com/example/terms_to_transitions/termstotransitions/equivalence/RefinablePartition", name := "blockCount", desc := "()I" } : Jvm.MethodName) prog_7_method_3_code (1 : Nat) (Option.some Jvm.ClassFile.FieldType.int), Jvm.Cond.code ({ cls := "com/example/terms_to_transitions/termstotransitions/equivalence/RefinablePartitionMarkPinLaw", name := "splitOff", desc := "(II)V" } : Jvm.MethodName) method_2_code (3 : Nat) (Option.none : Option Jvm.ClassFile.FieldType)]
set_option maxRecDepth 65536 in
theorem codes_eq : words1.filter isCode = codes1 := rfl
theorem w_codes : ∀ c ∈ words1.filter isCode, c.before args0 about1 = true := by
  rw [codes_eq]
  intro c hc
  simp only [codes1, List.mem_cons, List.not_mem_nil, or_false] at hc
  rcases hc with rfl | rfl | rfl | rfl | rfl | rfl | rfl | rfl | rfl | rfl | rfl
  · exact w_c0
  · exact w_c1
  · exact w_c2
  · exact w_c3
  · exact w_c4
  · exact w_c5
  · exact w_c6
  · exact w_c7
  · exact w_c8
  · exact w_c9
  · exact w_c10
set_option maxRecDepth 65536 in
theorem w_t1 : (words1.take 24).all (fun c => isCode c || c.before args0 about1) = true := by decide +kernel
set_option maxRecDepth 65536 in
theorem w_t2 : ((words1.drop 24).take 24).all (fun c => isCode c || c.before args0 about1) = true := by decide +kernel
set_option maxRecDepth 65536 in
theorem w_t3 : ((words1.drop 24).drop 24).all (fun c => isCode c || c.before args0 about1) = true := by decide +kernel
theorem w_tables : (allAtoms (Jvm.Cond.code x code maxLocals ret :: tables_1)).before args0 about1 = true := by
  rw [allAtoms_all]
  show words1.all (fun c => c.before args0 about1) = true
  refine all_split ?_ w_codes
  rw [← List.take_append_drop 24 words1, List.all_append, w_t1, ← List.take_append_drop 24 (words1.drop 24), List.all_append, w_t2, w_t3]
  rfl
set_option maxRecDepth 65536 in
theorem w_case : (Jvm.Cond.and given_1 narrow_1).before args0 about1 = true := by decide +kernel
theorem w_applies : (headSpec (Jvm.Cond.code x code maxLocals ret :: tables_1) room_1).applies x e0.platform about1 = true :=
  (Spec.applies_iff w_frames).mpr ⟨w_running, w_runnable, w_alone, w_named, w_hears, w_ripe, w_room, w_tables⟩
theorem atStart : AtStart classFile x code maxLocals ret World_1 tables_1 room_1 Calls_1 rest_1 Pre_1 launch0 p0 e0 about1 theMethod args0 below0 :=
  ⟨lists_1, trivial, launch0.admits_env _ _ _, launch0.least_env, fairChoices_fair.cas, fairChoices_fair.clock, w_frames, w_args, w_heap, w_applies, trivial, trivial, w_case⟩
end start1
theorem witness_1 : WitnessClaimed_1 := ⟨start1.p0, start1.e0, start1.about1, start1.theMethod, start1.args0, start1.below0, start1.atStart⟩
end Jvm.Pilot.@@N@@
