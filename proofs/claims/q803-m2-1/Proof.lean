import JvmDerived
import JvmDerived.Pilot.@@N@@Statement
import JvmDerived.Pilot.@@N@@Code
set_option linter.unusedVariables false
set_option linter.unusedSimpArgs false
namespace Jvm.Pilot.@@N@@
open Jvm Jvm.ClassFile Sem Op Lib Jvm.Free Jvm.Stand Jvm.LawKit Jvm.RoadKit Bundle Jvm.Pilot.@@N@@.Jvm.D
/-! ### own kit: a walk in continuation style: Go .. h k n pc Ls st: from heap h, with k cells and n slots made, at pc with locals Ls and stack st, the run comes to its end as F says -/
abbrev Wk : Type := Program × Env × State × MethodId × Array Value × List Frame × Method × Code × Nat
abbrev Wk.p (w : Wk) : Program := w.1
abbrev Wk.e (w : Wk) : Env := w.2.1
abbrev Wk.s (w : Wk) : State := w.2.2.1
abbrev Wk.m (w : Wk) : MethodId := w.2.2.2.1
abbrev Wk.as (w : Wk) : Array Value := w.2.2.2.2.1
abbrev Wk.below (w : Wk) : List Frame := w.2.2.2.2.2.1
abbrev Wk.meth (w : Wk) : Method := w.2.2.2.2.2.2.1
abbrev Wk.c (w : Wk) : Code := w.2.2.2.2.2.2.2.1
abbrev Wk.kk (w : Wk) : Nat := w.2.2.2.2.2.2.2.2
/-- what may be said at the end, of a run that leaves with v -/
def Lv (w : Wk) (R : Room) (n0 : Nat) (Q : Option Value → Heap → Prop) (Y : State → Outcome → Prop) : Prop :=
  ∀ (T : State) (fs : List Frame) (locs : List Loc) (k n : Nat) (v : Option Value), w.s.WarmedH (T.setFrames fs).vm → w.s.sameButNew ({ T.setFrames fs with vm := w.s.vm } : State) locs k n → Fr n0 locs → w.kk ≤ T.heap.size → k ≤ R.cells → n ≤ R.slots → Q v T.heap → Y (T.setFrames fs) (.returned v)
def Nar (w : Wk) (R : Room) (n0 : Nat) (Q : Option Value → Heap → Prop) : State → Outcome → Prop := fun t o => ∃ v L, o = .returned v ∧ (Q v t.heap ∧ Fr n0 L ∧ w.kk ≤ t.heap.size) ∧ FrameEnd w.s o t L R.cells R.slots
theorem Lv.nar (w : Wk) (R : Room) (n0 : Nat) (Q : Option Value → Heap → Prop) : Lv w R n0 Q (Nar w R n0 Q) := fun T fs locs k n v hW hs N hk hc hn hQ => ⟨v, locs, rfl, ⟨hQ, N, hk⟩, ⟨v, rfl⟩, hW, hs.mono hc hn⟩
/-- what stays the same through a body's walk -/
def Cx (w : Wk) (Z : State) (own : String) (bytes : ByteArray) (ml : Nat) (rt : Option FieldType) (nm : String) (R : Room) (n0 : Nat) (Q : Option Value → Heap → Prop) (Y : State → Outcome → Prop) : Prop :=
  w.p.tables.exec = Jvm.exec ∧ w.c.code = bytes ∧ w.c.maxLocals = ml ∧ w.s.vm.findClass own = some w.m.cls ∧ Z.Warmed39 w.s.vm ∧ w.meth.sig.returnType = rt ∧ w.meth.locks = false ∧ w.meth.name = nm ∧ Lv w R n0 Q Y
def Go (w : Wk) (l : Launch) (R : Room) (n0 : Nat) (Y : State → Outcome → Prop) (h : Heap) (k n pc : Nat) (Ls : Array Slot) (st : List Value) : Prop :=
  ∀ (T : State) (locs : List Loc), Stand w.p l w.e R w.s w.m w.as w.below w.meth w.c T locs k n → T.heap = h → n0 ≤ h.size ∧ w.kk ≤ h.size → Fr n0 locs →
    ∃ s₂ o, Steps w.p.tables w.e w.below (T.setTop (mkF w.m pc Ls st)) s₂ ∧ s₂.status = .running ∧ Ended s₂ w.below o ∧ Y s₂ o
def Met (l : Launch) (Z : State) (y : MethodName) (bytes : ByteArray) (ml : Nat) (rt : Option FieldType) (rm : Room) (n0 : Nat) (h0 : Heap) (as' : Array Value) (Q : Option Value → Heap → Prop) : Prop :=
  n0 ≤ h0.size → ∀ ws, MetFree l y (head1 (Jvm.Cond.code y bytes ml rt :: ws) rm) (fun a U => a = as' ∧ Z.Warmed39 U.vm ∧ U.heap = h0) (fun _ _ _ _ _ => True) (fun _ U o U' => ∃ v L, o = .returned v ∧ (Q v U'.heap ∧ Fr n0 L ∧ h0.size ≤ U'.heap.size) ∧ FrameEnd U o U' L rm.cells rm.slots)
section OwnKit
variable {w : Wk} {l : Launch} {R : Room} {Z : State} {a0 : Array Value} {own : String} {bytes : ByteArray} {ml : Nat} {rt : Option FieldType} {nm : String} {n0 : Nat} {Q : Option Value → Heap → Prop} {Y : State → Outcome → Prop} {h : Heap} {k n pc pc' : Nat} {Ls Ls' : Array Slot} {st rest : List Value}
theorem Cx.hx (C : Cx w Z own bytes ml rt nm R n0 Q Y) : w.p.tables.exec = Jvm.exec := C.1
theorem Cx.d (C : Cx w Z own bytes ml rt nm R n0 Q Y) {pc : Nat} {r : Except ClassFile.DecodeError (ClassFile.Instr × Nat)} (hd : decode bytes pc = r) : decode w.c.code pc = r := C.2.1 ▸ hd
theorem Cx.hml (C : Cx w Z own bytes ml rt nm R n0 Q Y) : w.c.maxLocals = ml := C.2.2.1
theorem Cx.hown (C : Cx w Z own bytes ml rt nm R n0 Q Y) : w.s.vm.findClass own = some w.m.cls := C.2.2.2.1
theorem Cx.hZ (C : Cx w Z own bytes ml rt nm R n0 Q Y) : Z.Warmed39 w.s.vm := C.2.2.2.2.1
theorem Cx.ret (C : Cx w Z own bytes ml rt nm R n0 Q Y) : w.meth.sig.returnType = rt := C.2.2.2.2.2.1
theorem Cx.locks (C : Cx w Z own bytes ml rt nm R n0 Q Y) : w.meth.locks = false := C.2.2.2.2.2.2.1
theorem Cx.name (C : Cx w Z own bytes ml rt nm R n0 Q Y) : w.meth.name = nm := C.2.2.2.2.2.2.2.1
theorem Cx.lv (C : Cx w Z own bytes ml rt nm R n0 Q Y) : Lv w R n0 Q Y := C.2.2.2.2.2.2.2.2
theorem Met.intro {y : MethodName} {rm : Room} {h0 : Heap} {as' : Array Value} (hp : plainFor y = true) (hef : ∀ m, entryFrame m as' ml = mkF m 0 Ls [])
    (H : ∀ (w : Wk) (Y : State → Outcome → Prop), Cx w Z y.cls bytes ml rt y.name rm n0 Q Y → Go w l rm n0 Y h0 0 0 0 Ls []) : Met l Z y bytes ml rt rm n0 h0 as' Q := by
  intro hn ws
  refine MetFree.of_bodySF hp hisR ?_
  intro p e s m args below meth c s₁ Bd hml0 hP hK
  obtain ⟨rfl, hZ, hh⟩ := hP
  have X0 : Stand p l e rm s m args below meth c s₁ [] 0 0 := Stand.of_body Bd
  have e0 : s₁.heap = h0 := by rw [← hh, Bd.state]; rfl
  obtain ⟨s₂, o, g1, g2, g3, g4⟩ := H (p, e, s, m, args, below, meth, c, h0.size) _ ⟨Bd.exec, Bd.bytes, hml0, findClass_of_methodNamed Bd.named, hZ, Bd.returns, BodyLoose.notSynchronized Bd, (name_of_methodNamed Bd.named Bd.method).1, Lv.nar _ _ _ _⟩ s₁ [] X0 e0 ⟨hn, Nat.le_refl _⟩ (Fr.nil n0)
  exact ⟨s₂, o, castTop (hef m) g1, g2, g3, g4⟩
theorem Go.plain {st' : List Value} (f : ∀ (T t : State), At T w.m w.c w.below → Steps w.p.tables w.e w.below (T.setTop (mkF w.m pc' Ls' st')) t → Steps w.p.tables w.e w.below (T.setTop (mkF w.m pc Ls st)) t) (G : Go w l R n0 Y h k n pc' Ls' st') : Go w l R n0 Y h k n pc Ls st := by
  intro T locs X hT hn N
  obtain ⟨s₂, o, h1, h2⟩ := G T locs X hT hn N
  exact ⟨s₂, o, f T s₂ X.here h1, h2⟩
theorem Go.stand {st' : List Value} (f : ∀ (T t : State) (locs : List Loc), Stand w.p l w.e R w.s w.m w.as w.below w.meth w.c T locs k n → T.heap = h → Steps w.p.tables w.e w.below (T.setTop (mkF w.m pc' Ls' st')) t → Steps w.p.tables w.e w.below (T.setTop (mkF w.m pc Ls st)) t) (G : Go w l R n0 Y h k n pc' Ls' st') : Go w l R n0 Y h k n pc Ls st := by
  intro T locs X hT hn N
  obtain ⟨s₂, o, h1, h2⟩ := G T locs X hT hn N
  exact ⟨s₂, o, f T s₂ locs X hT h1, h2⟩
theorem Go.size (G : n0 ≤ h.size → Go w l R n0 Y h k n pc Ls st) : Go w l R n0 Y h k n pc Ls st := fun T locs X hT hn N => G hn.1 T locs X hT hn N
theorem own_grow {kk : Nat} {h h' : Heap} (hn : n0 ≤ h.size ∧ kk ≤ h.size) (E : h.size ≤ h'.size) : n0 ≤ h'.size ∧ kk ≤ h'.size := ⟨Nat.le_trans hn.1 E, Nat.le_trans hn.2 E⟩
theorem g_iloadN (C : Cx w Z own bytes ml rt nm R n0 Q Y) {i : Fin 4} {v : Int32} (hd : decode bytes pc = .ok (.iload_n i, 1)) (hp : pc + 1 = pc') (hl : Ls[i.val]? = some (.val (.int v))) (G : Go w l R n0 Y h k n pc' Ls (.int v :: st)) : Go w l R n0 Y h k n pc Ls (st) := by
  subst hp; exact Go.plain (fun T t H K => XS.iloadN H C.hx rfl (C.d hd) hl K) G
theorem g_iload (C : Cx w Z own bytes ml rt nm R n0 Q Y) {i : Nat} {v : Int32} (hd : decode bytes pc = .ok (.iload i, 2)) (hp : pc + 2 = pc') (hl : Ls[i]? = some (.val (.int v))) (G : Go w l R n0 Y h k n pc' Ls (.int v :: st)) : Go w l R n0 Y h k n pc Ls (st) := by
  subst hp; exact Go.plain (fun T t H K => XS.iload H C.hx rfl (C.d hd) hl K) G
theorem g_lloadN (C : Cx w Z own bytes ml rt nm R n0 Q Y) {i : Fin 4} {v : Int64} (hd : decode bytes pc = .ok (.lload_n i, 1)) (hp : pc + 1 = pc') (hl : Ls[i.val]? = some (.val (.long v))) (G : Go w l R n0 Y h k n pc' Ls (.long v :: st)) : Go w l R n0 Y h k n pc Ls (st) := by
  subst hp; exact Go.plain (fun T t H K => XS.lloadN H C.hx rfl (C.d hd) hl K) G
theorem g_lload (C : Cx w Z own bytes ml rt nm R n0 Q Y) {i : Nat} {v : Int64} (hd : decode bytes pc = .ok (.lload i, 2)) (hp : pc + 2 = pc') (hl : Ls[i]? = some (.val (.long v))) (G : Go w l R n0 Y h k n pc' Ls (.long v :: st)) : Go w l R n0 Y h k n pc Ls (st) := by
  subst hp; exact Go.plain (fun T t H K => XS.lload H C.hx rfl (C.d hd) hl K) G
theorem g_aloadN (C : Cx w Z own bytes ml rt nm R n0 Q Y) {i : Fin 4} {v : Value} (hd : decode bytes pc = .ok (.aload_n i, 1)) (hp : pc + 1 = pc') (hl : Ls[i.val]? = some (.val v)) (hv : v.isRef = true) (G : Go w l R n0 Y h k n pc' Ls (v :: st)) : Go w l R n0 Y h k n pc Ls (st) := by
  subst hp; exact Go.plain (fun T t H K => XS.aloadN H C.hx rfl (C.d hd) hl hv K) G
theorem g_aload (C : Cx w Z own bytes ml rt nm R n0 Q Y) {i : Nat} {v : Value} (hd : decode bytes pc = .ok (.aload i, 2)) (hp : pc + 2 = pc') (hl : Ls[i]? = some (.val v)) (hv : v.isRef = true) (G : Go w l R n0 Y h k n pc' Ls (v :: st)) : Go w l R n0 Y h k n pc Ls (st) := by
  subst hp; exact Go.plain (fun T t H K => XS.aload H C.hx rfl (C.d hd) hl hv K) G
theorem g_istoreN (C : Cx w Z own bytes ml rt nm R n0 Q Y) {i : Fin 4} {x : Int32} (hd : decode bytes pc = .ok (.istore_n i, 1)) (hp : pc + 1 = pc') (hl : storeLocals Ls i.val (.int x) = some Ls') (G : Go w l R n0 Y h k n pc' Ls' rest) : Go w l R n0 Y h k n pc Ls (.int x :: rest) := by
  subst hp; exact Go.plain (fun T t H K => XS.istoreN H C.hx rfl (C.d hd) rfl hl K) G
theorem g_istore (C : Cx w Z own bytes ml rt nm R n0 Q Y) {i : Nat} {x : Int32} (hd : decode bytes pc = .ok (.istore i, 2)) (hp : pc + 2 = pc') (hl : storeLocals Ls i (.int x) = some Ls') (G : Go w l R n0 Y h k n pc' Ls' rest) : Go w l R n0 Y h k n pc Ls (.int x :: rest) := by
  subst hp; exact Go.plain (fun T t H K => XS.istore H C.hx rfl (C.d hd) rfl hl K) G
theorem g_lstoreN (C : Cx w Z own bytes ml rt nm R n0 Q Y) {i : Fin 4} {x : Int64} (hd : decode bytes pc = .ok (.lstore_n i, 1)) (hp : pc + 1 = pc') (hl : storeLocals Ls i.val (.long x) = some Ls') (G : Go w l R n0 Y h k n pc' Ls' rest) : Go w l R n0 Y h k n pc Ls (.long x :: rest) := by
  subst hp; exact Go.plain (fun T t H K => XS.lstoreN H C.hx rfl (C.d hd) rfl hl K) G
theorem g_lstore (C : Cx w Z own bytes ml rt nm R n0 Q Y) {i : Nat} {x : Int64} (hd : decode bytes pc = .ok (.lstore i, 2)) (hp : pc + 2 = pc') (hl : storeLocals Ls i (.long x) = some Ls') (G : Go w l R n0 Y h k n pc' Ls' rest) : Go w l R n0 Y h k n pc Ls (.long x :: rest) := by
  subst hp; exact Go.plain (fun T t H K => XS.lstore H C.hx rfl (C.d hd) rfl hl K) G
theorem g_astoreN (C : Cx w Z own bytes ml rt nm R n0 Q Y) {i : Fin 4} {x : Value} (hd : decode bytes pc = .ok (.astore_n i, 1)) (hp : pc + 1 = pc') (hv : x.isRef = true) (hl : storeLocals Ls i.val (x) = some Ls') (G : Go w l R n0 Y h k n pc' Ls' rest) : Go w l R n0 Y h k n pc Ls (x :: rest) := by
  subst hp; exact Go.plain (fun T t H K => XS.astoreN H C.hx rfl (C.d hd) rfl hv hl K) G
theorem g_astore (C : Cx w Z own bytes ml rt nm R n0 Q Y) {i : Nat} {x : Value} (hd : decode bytes pc = .ok (.astore i, 2)) (hp : pc + 2 = pc') (hv : x.isRef = true) (hl : storeLocals Ls i (x) = some Ls') (G : Go w l R n0 Y h k n pc' Ls' rest) : Go w l R n0 Y h k n pc Ls (x :: rest) := by
  subst hp; exact Go.plain (fun T t H K => XS.astore H C.hx rfl (C.d hd) rfl hv hl K) G
theorem g_iconst (C : Cx w Z own bytes ml rt nm R n0 Q Y) {i : Int} {z : Int32} (hd : decode bytes pc = .ok (.iconst i, 1)) (hp : pc + 1 = pc') (hz : Int32.ofInt i = z) (G : Go w l R n0 Y h k n pc' Ls (.int z :: st)) : Go w l R n0 Y h k n pc Ls st := by
  subst hp hz; exact Go.plain (fun T t H K => XS.iconst H C.hx rfl (C.d hd) K) G
theorem g_bipush (C : Cx w Z own bytes ml rt nm R n0 Q Y) {i : Int} {z : Int32} (hd : decode bytes pc = .ok (.bipush i, 2)) (hp : pc + 2 = pc') (hz : (Int8.ofInt i).toInt32 = z) (G : Go w l R n0 Y h k n pc' Ls (.int z :: st)) : Go w l R n0 Y h k n pc Ls st := by
  subst hp hz; exact Go.plain (fun T t H K => XS.bipush H C.hx rfl (C.d hd) K) G
theorem g_sipush (C : Cx w Z own bytes ml rt nm R n0 Q Y) {i : Int} {z : Int32} (hd : decode bytes pc = .ok (.sipush i, 3)) (hp : pc + 3 = pc') (hz : (Int16.ofInt i).toInt32 = z) (G : Go w l R n0 Y h k n pc' Ls (.int z :: st)) : Go w l R n0 Y h k n pc Ls st := by
  subst hp hz; exact Go.plain (fun T t H K => XS.sipush H C.hx rfl (C.d hd) K) G
theorem g_lconst (C : Cx w Z own bytes ml rt nm R n0 Q Y) {i : Fin 2} {z : Int64} (hd : decode bytes pc = .ok (.lconst i, 1)) (hp : pc + 1 = pc') (hz : Int64.ofNat i = z) (G : Go w l R n0 Y h k n pc' Ls (.long z :: st)) : Go w l R n0 Y h k n pc Ls st := by
  subst hp hz; exact Go.plain (fun T t H K => XS.lconst H C.hx rfl (C.d hd) K) G
theorem g_null (C : Cx w Z own bytes ml rt nm R n0 Q Y) (hd : decode bytes pc = .ok (.aconst_null, 1)) (hp : pc + 1 = pc') (G : Go w l R n0 Y h k n pc' Ls (.null :: st)) : Go w l R n0 Y h k n pc Ls (st) := by
  subst hp; exact Go.plain (fun T t H K => XS.aconstNull H C.hx rfl (C.d hd)  K) G
theorem g_iadd (C : Cx w Z own bytes ml rt nm R n0 Q Y) {x y : Int32} (hd : decode bytes pc = .ok (.iadd, 1)) (hp : pc + 1 = pc') (G : Go w l R n0 Y h k n pc' Ls (.int (x + y) :: rest)) : Go w l R n0 Y h k n pc Ls (.int y :: .int x :: rest) := by
  subst hp; exact Go.plain (fun T t H K => XS.iadd H C.hx rfl (C.d hd) rfl K) G
theorem g_isub (C : Cx w Z own bytes ml rt nm R n0 Q Y) {x y : Int32} (hd : decode bytes pc = .ok (.isub, 1)) (hp : pc + 1 = pc') (G : Go w l R n0 Y h k n pc' Ls (.int (x - y) :: rest)) : Go w l R n0 Y h k n pc Ls (.int y :: .int x :: rest) := by
  subst hp; exact Go.plain (fun T t H K => XS.isub H C.hx rfl (C.d hd) rfl K) G
theorem g_imul (C : Cx w Z own bytes ml rt nm R n0 Q Y) {x y : Int32} (hd : decode bytes pc = .ok (.imul, 1)) (hp : pc + 1 = pc') (G : Go w l R n0 Y h k n pc' Ls (.int (x * y) :: rest)) : Go w l R n0 Y h k n pc Ls (.int y :: .int x :: rest) := by
  subst hp; exact Go.plain (fun T t H K => XS.imul H C.hx rfl (C.d hd) rfl K) G
theorem g_iand (C : Cx w Z own bytes ml rt nm R n0 Q Y) {x y : Int32} (hd : decode bytes pc = .ok (.iand, 1)) (hp : pc + 1 = pc') (G : Go w l R n0 Y h k n pc' Ls (.int (x &&& y) :: rest)) : Go w l R n0 Y h k n pc Ls (.int y :: .int x :: rest) := by
  subst hp; exact Go.plain (fun T t H K => XS.iand H C.hx rfl (C.d hd) rfl K) G
theorem g_ior (C : Cx w Z own bytes ml rt nm R n0 Q Y) {x y : Int32} (hd : decode bytes pc = .ok (.ior, 1)) (hp : pc + 1 = pc') (G : Go w l R n0 Y h k n pc' Ls (.int (x ||| y) :: rest)) : Go w l R n0 Y h k n pc Ls (.int y :: .int x :: rest) := by
  subst hp; exact Go.plain (fun T t H K => XS.ior H C.hx rfl (C.d hd) rfl K) G
theorem g_ixor (C : Cx w Z own bytes ml rt nm R n0 Q Y) {x y : Int32} (hd : decode bytes pc = .ok (.ixor, 1)) (hp : pc + 1 = pc') (G : Go w l R n0 Y h k n pc' Ls (.int (x ^^^ y) :: rest)) : Go w l R n0 Y h k n pc Ls (.int y :: .int x :: rest) := by
  subst hp; exact Go.plain (fun T t H K => XS.ixor H C.hx rfl (C.d hd) rfl K) G
theorem g_ishl (C : Cx w Z own bytes ml rt nm R n0 Q Y) {x y : Int32} (hd : decode bytes pc = .ok (.ishl, 1)) (hp : pc + 1 = pc') (G : Go w l R n0 Y h k n pc' Ls (.int (x <<< (y &&& 31)) :: rest)) : Go w l R n0 Y h k n pc Ls (.int y :: .int x :: rest) := by
  subst hp; exact Go.plain (fun T t H K => XS.ishl H C.hx rfl (C.d hd) rfl K) G
theorem g_ishr (C : Cx w Z own bytes ml rt nm R n0 Q Y) {x y : Int32} (hd : decode bytes pc = .ok (.ishr, 1)) (hp : pc + 1 = pc') (G : Go w l R n0 Y h k n pc' Ls (.int (x >>> (y &&& 31)) :: rest)) : Go w l R n0 Y h k n pc Ls (.int y :: .int x :: rest) := by
  subst hp; exact Go.plain (fun T t H K => XS.ishr H C.hx rfl (C.d hd) rfl K) G
theorem g_iushr (C : Cx w Z own bytes ml rt nm R n0 Q Y) {x y : Int32} (hd : decode bytes pc = .ok (.iushr, 1)) (hp : pc + 1 = pc') (G : Go w l R n0 Y h k n pc' Ls (.int ((x.toUInt32 >>> (y &&& 31).toUInt32).toInt32) :: rest)) : Go w l R n0 Y h k n pc Ls (.int y :: .int x :: rest) := by
  subst hp; exact Go.plain (fun T t H K => XS.iushr H C.hx rfl (C.d hd) rfl K) G
theorem g_ladd (C : Cx w Z own bytes ml rt nm R n0 Q Y) {x y : Int64} (hd : decode bytes pc = .ok (.ladd, 1)) (hp : pc + 1 = pc') (G : Go w l R n0 Y h k n pc' Ls (.long (x + y) :: rest)) : Go w l R n0 Y h k n pc Ls (.long y :: .long x :: rest) := by
  subst hp; exact Go.plain (fun T t H K => XS.ladd H C.hx rfl (C.d hd) rfl K) G
theorem g_lsub (C : Cx w Z own bytes ml rt nm R n0 Q Y) {x y : Int64} (hd : decode bytes pc = .ok (.lsub, 1)) (hp : pc + 1 = pc') (G : Go w l R n0 Y h k n pc' Ls (.long (x - y) :: rest)) : Go w l R n0 Y h k n pc Ls (.long y :: .long x :: rest) := by
  subst hp; exact Go.plain (fun T t H K => XS.lsub H C.hx rfl (C.d hd) rfl K) G
theorem g_lmul (C : Cx w Z own bytes ml rt nm R n0 Q Y) {x y : Int64} (hd : decode bytes pc = .ok (.lmul, 1)) (hp : pc + 1 = pc') (G : Go w l R n0 Y h k n pc' Ls (.long (x * y) :: rest)) : Go w l R n0 Y h k n pc Ls (.long y :: .long x :: rest) := by
  subst hp; exact Go.plain (fun T t H K => XS.lmul H C.hx rfl (C.d hd) rfl K) G
theorem g_land (C : Cx w Z own bytes ml rt nm R n0 Q Y) {x y : Int64} (hd : decode bytes pc = .ok (.land, 1)) (hp : pc + 1 = pc') (G : Go w l R n0 Y h k n pc' Ls (.long (x &&& y) :: rest)) : Go w l R n0 Y h k n pc Ls (.long y :: .long x :: rest) := by
  subst hp; exact Go.plain (fun T t H K => XS.land H C.hx rfl (C.d hd) rfl K) G
theorem g_lor (C : Cx w Z own bytes ml rt nm R n0 Q Y) {x y : Int64} (hd : decode bytes pc = .ok (.lor, 1)) (hp : pc + 1 = pc') (G : Go w l R n0 Y h k n pc' Ls (.long (x ||| y) :: rest)) : Go w l R n0 Y h k n pc Ls (.long y :: .long x :: rest) := by
  subst hp; exact Go.plain (fun T t H K => XS.lor H C.hx rfl (C.d hd) rfl K) G
theorem g_lxor (C : Cx w Z own bytes ml rt nm R n0 Q Y) {x y : Int64} (hd : decode bytes pc = .ok (.lxor, 1)) (hp : pc + 1 = pc') (G : Go w l R n0 Y h k n pc' Ls (.long (x ^^^ y) :: rest)) : Go w l R n0 Y h k n pc Ls (.long y :: .long x :: rest) := by
  subst hp; exact Go.plain (fun T t H K => XS.lxor H C.hx rfl (C.d hd) rfl K) G
theorem g_lshl (C : Cx w Z own bytes ml rt nm R n0 Q Y) {x : Int64} {y : Int32} (hd : decode bytes pc = .ok (.lshl, 1)) (hp : pc + 1 = pc') (G : Go w l R n0 Y h k n pc' Ls (.long (x <<< (y &&& 0x3f).toInt64) :: rest)) : Go w l R n0 Y h k n pc Ls (.int y :: .long x :: rest) := by
  subst hp; exact Go.plain (fun T t H K => XS.lshl H C.hx rfl (C.d hd) rfl K) G
theorem g_lshr (C : Cx w Z own bytes ml rt nm R n0 Q Y) {x : Int64} {y : Int32} (hd : decode bytes pc = .ok (.lshr, 1)) (hp : pc + 1 = pc') (G : Go w l R n0 Y h k n pc' Ls (.long (x >>> (y &&& 0x3f).toInt64) :: rest)) : Go w l R n0 Y h k n pc Ls (.int y :: .long x :: rest) := by
  subst hp; exact Go.plain (fun T t H K => XS.lshr H C.hx rfl (C.d hd) rfl K) G
theorem g_lushr (C : Cx w Z own bytes ml rt nm R n0 Q Y) {x : Int64} {y : Int32} (hd : decode bytes pc = .ok (.lushr, 1)) (hp : pc + 1 = pc') (G : Go w l R n0 Y h k n pc' Ls (.long ((x.toUInt64 >>> (y &&& 0x3f).toInt64.toUInt64).toInt64) :: rest)) : Go w l R n0 Y h k n pc Ls (.int y :: .long x :: rest) := by
  subst hp; exact Go.plain (fun T t H K => XS.lushr H C.hx rfl (C.d hd) rfl K) G
theorem g_idiv (C : Cx w Z own bytes ml rt nm R n0 Q Y) {x y : Int32} (hd : decode bytes pc = .ok (.idiv, 1)) (hp : pc + 1 = pc') (hy : y ≠ 0) (G : Go w l R n0 Y h k n pc' Ls (.int (x / y) :: rest)) : Go w l R n0 Y h k n pc Ls (.int y :: .int x :: rest) := by
  subst hp; exact Go.plain (fun T t H K => XS.idiv H C.hx rfl (C.d hd) rfl hy K) G
theorem g_irem (C : Cx w Z own bytes ml rt nm R n0 Q Y) {x y : Int32} (hd : decode bytes pc = .ok (.irem, 1)) (hp : pc + 1 = pc') (hy : y ≠ 0) (G : Go w l R n0 Y h k n pc' Ls (.int (x % y) :: rest)) : Go w l R n0 Y h k n pc Ls (.int y :: .int x :: rest) := by
  subst hp; exact Go.stand (fun T t locs X hT K => iremM X C.hx rfl (C.d hd) rfl hy K) G
theorem g_lcmp (C : Cx w Z own bytes ml rt nm R n0 Q Y) {x y : Int64} (hd : decode bytes pc = .ok (.lcmp, 1)) (hp : pc + 1 = pc') (G : Go w l R n0 Y h k n pc' Ls (.int (lcmpW x y) :: rest)) : Go w l R n0 Y h k n pc Ls (.long y :: .long x :: rest) := by
  subst hp; exact Go.plain (fun T t H K => XS.lcmp H C.hx rfl (C.d hd) rfl K) G
theorem g_ineg (C : Cx w Z own bytes ml rt nm R n0 Q Y) {v : Int32} (hd : decode bytes pc = .ok (.ineg, 1)) (hp : pc + 1 = pc') (G : Go w l R n0 Y h k n pc' Ls (.int (-v) :: rest)) : Go w l R n0 Y h k n pc Ls (.int v :: rest) := by
  subst hp; exact Go.plain (fun T t H K => XS.ineg H C.hx rfl (C.d hd) rfl K) G
theorem g_lneg (C : Cx w Z own bytes ml rt nm R n0 Q Y) {v : Int64} (hd : decode bytes pc = .ok (.lneg, 1)) (hp : pc + 1 = pc') (G : Go w l R n0 Y h k n pc' Ls (.long (-v) :: rest)) : Go w l R n0 Y h k n pc Ls (.long v :: rest) := by
  subst hp; exact Go.plain (fun T t H K => XS.lneg H C.hx rfl (C.d hd) rfl K) G
theorem g_i2l (C : Cx w Z own bytes ml rt nm R n0 Q Y) {v : Int32} (hd : decode bytes pc = .ok (.i2l, 1)) (hp : pc + 1 = pc') (G : Go w l R n0 Y h k n pc' Ls (.long (v.toInt64) :: rest)) : Go w l R n0 Y h k n pc Ls (.int v :: rest) := by
  subst hp; exact Go.plain (fun T t H K => XS.i2l H C.hx rfl (C.d hd) rfl K) G
theorem g_l2i (C : Cx w Z own bytes ml rt nm R n0 Q Y) {v : Int64} (hd : decode bytes pc = .ok (.l2i, 1)) (hp : pc + 1 = pc') (G : Go w l R n0 Y h k n pc' Ls (.int (v.toInt32) :: rest)) : Go w l R n0 Y h k n pc Ls (.long v :: rest) := by
  subst hp; exact Go.plain (fun T t H K => XS.l2i H C.hx rfl (C.d hd) rfl K) G
theorem g_i2b (C : Cx w Z own bytes ml rt nm R n0 Q Y) {v : Int32} (hd : decode bytes pc = .ok (.i2b, 1)) (hp : pc + 1 = pc') (G : Go w l R n0 Y h k n pc' Ls (.int (v.toInt8.toInt32) :: rest)) : Go w l R n0 Y h k n pc Ls (.int v :: rest) := by
  subst hp; exact Go.plain (fun T t H K => XS.i2b H C.hx rfl (C.d hd) rfl K) G
theorem g_i2s (C : Cx w Z own bytes ml rt nm R n0 Q Y) {v : Int32} (hd : decode bytes pc = .ok (.i2s, 1)) (hp : pc + 1 = pc') (G : Go w l R n0 Y h k n pc' Ls (.int (v.toInt16.toInt32) :: rest)) : Go w l R n0 Y h k n pc Ls (.int v :: rest) := by
  subst hp; exact Go.plain (fun T t H K => XS.i2s H C.hx rfl (C.d hd) rfl K) G
theorem g_i2c (C : Cx w Z own bytes ml rt nm R n0 Q Y) {v : Int32} (hd : decode bytes pc = .ok (.i2c, 1)) (hp : pc + 1 = pc') (G : Go w l R n0 Y h k n pc' Ls (.int (v.toUInt32.toUInt16.toUInt32.toInt32) :: rest)) : Go w l R n0 Y h k n pc Ls (.int v :: rest) := by
  subst hp; exact Go.plain (fun T t H K => XS.i2c H C.hx rfl (C.d hd) rfl K) G
theorem g_dup (C : Cx w Z own bytes ml rt nm R n0 Q Y) {x : Value} (hd : decode bytes pc = .ok (.dup, 1)) (hp : pc + 1 = pc') (hc : x.category = 1) (G : Go w l R n0 Y h k n pc' Ls (x :: x :: rest)) : Go w l R n0 Y h k n pc Ls (x :: rest) := by
  subst hp; exact Go.plain (fun T t H K => XS.dup H C.hx rfl (C.d hd) rfl hc K) G
theorem g_dupX1 (C : Cx w Z own bytes ml rt nm R n0 Q Y) {x y : Value} (hd : decode bytes pc = .ok (.dup_x1, 1)) (hp : pc + 1 = pc') (hc : x.category = 1) (hc2 : y.category = 1) (G : Go w l R n0 Y h k n pc' Ls (x :: y :: x :: rest)) : Go w l R n0 Y h k n pc Ls (x :: y :: rest) := by
  subst hp; exact Go.plain (fun T t H K => XS.dupX1 H C.hx rfl (C.d hd) rfl hc hc2 K) G
theorem g_pop (C : Cx w Z own bytes ml rt nm R n0 Q Y) {x : Value} (hd : decode bytes pc = .ok (.pop, 1)) (hp : pc + 1 = pc') (hc : x.category = 1) (G : Go w l R n0 Y h k n pc' Ls (rest)) : Go w l R n0 Y h k n pc Ls (x :: rest) := by
  subst hp; exact Go.plain (fun T t H K => XS.pop H C.hx rfl (C.d hd) rfl hc K) G
theorem g_iinc (C : Cx w Z own bytes ml rt nm R n0 Q Y) {i : Nat} {d : Int} {x : Int32} (hd : decode bytes pc = .ok (.iinc i d, 3)) (hp : pc + 3 = pc') (hl : Ls[i]? = some (.val (.int x))) {z : Int32} (hz : x + Int32.ofInt d = z) (hl' : storeLocals Ls i (.int z) = some Ls') (G : Go w l R n0 Y h k n pc' Ls' st) : Go w l R n0 Y h k n pc Ls st := by
  subst hp hz; exact Go.plain (fun T t H K => XS.iinc H C.hx rfl (C.d hd) hl hl' K) G
theorem g_goto (C : Cx w Z own bytes ml rt nm R n0 Q Y) {o : Int} (hd : decode bytes pc = .ok (.goto o, 3)) (ho : 0 ≤ (pc : Int) + o) (hp : ((pc : Int) + o).toNat = pc') (G : Go w l R n0 Y h k n pc' Ls st) : Go w l R n0 Y h k n pc Ls st :=
  Go.plain (fun T t H K => XS.goto H C.hx rfl (pc0 := pc) rfl (C.d hd) ho hp K) G
theorem g_icmp_lt (C : Cx w Z own bytes ml rt nm R n0 Q Y) {o : Int} {x y : Int32} {pcN : Nat} (hd : decode bytes pc = .ok (.if_icmp .lt o, 3)) (ho : 0 ≤ (pc : Int) + o) (hp : ((pc : Int) + o).toNat = pc') (hq : pc + 3 = pcN) (G : x < y → Go w l R n0 Y h k n pc' Ls rest) (G' : ¬ x < y → Go w l R n0 Y h k n pcN Ls rest) : Go w l R n0 Y h k n pc Ls (.int y :: .int x :: rest) := by
  subst hq
  by_cases q : x < y
  · exact Go.plain (fun T t H K => XS.icmpYes H C.hx rfl (pc0 := pc) rfl (C.d hd) rfl (tlt q).1 ho hp K) (G q)
  · exact Go.plain (fun T t H K => XS.icmpNo H C.hx rfl (C.d hd) rfl (flt q).1 K) (G' q)
theorem g_if_lt (C : Cx w Z own bytes ml rt nm R n0 Q Y) {o : Int} {x : Int32} {pcN : Nat} (hd : decode bytes pc = .ok (.ifCond .lt o, 3)) (ho : 0 ≤ (pc : Int) + o) (hp : ((pc : Int) + o).toNat = pc') (hq : pc + 3 = pcN) (G : x < 0 → Go w l R n0 Y h k n pc' Ls rest) (G' : ¬ x < 0 → Go w l R n0 Y h k n pcN Ls rest) : Go w l R n0 Y h k n pc Ls (.int x :: rest) := by
  subst hq
  by_cases q : x < 0
  · exact Go.plain (fun T t H K => XS.ifYes H C.hx rfl (pc0 := pc) rfl (C.d hd) rfl ((if0 _ _).trans (tlt q).1) ho hp K) (G q)
  · exact Go.plain (fun T t H K => XS.ifNo H C.hx rfl (C.d hd) rfl ((if0 _ _).trans (flt q).1) K) (G' q)
theorem g_icmp_ge (C : Cx w Z own bytes ml rt nm R n0 Q Y) {o : Int} {x y : Int32} {pcN : Nat} (hd : decode bytes pc = .ok (.if_icmp .ge o, 3)) (ho : 0 ≤ (pc : Int) + o) (hp : ((pc : Int) + o).toNat = pc') (hq : pc + 3 = pcN) (G : ¬ x < y → Go w l R n0 Y h k n pc' Ls rest) (G' : x < y → Go w l R n0 Y h k n pcN Ls rest) : Go w l R n0 Y h k n pc Ls (.int y :: .int x :: rest) := by
  subst hq
  by_cases q : x < y
  · exact Go.plain (fun T t H K => XS.icmpNo H C.hx rfl (C.d hd) rfl (tlt q).2.1 K) (G' q)
  · exact Go.plain (fun T t H K => XS.icmpYes H C.hx rfl (pc0 := pc) rfl (C.d hd) rfl (flt q).2.1 ho hp K) (G q)
theorem g_if_ge (C : Cx w Z own bytes ml rt nm R n0 Q Y) {o : Int} {x : Int32} {pcN : Nat} (hd : decode bytes pc = .ok (.ifCond .ge o, 3)) (ho : 0 ≤ (pc : Int) + o) (hp : ((pc : Int) + o).toNat = pc') (hq : pc + 3 = pcN) (G : ¬ x < 0 → Go w l R n0 Y h k n pc' Ls rest) (G' : x < 0 → Go w l R n0 Y h k n pcN Ls rest) : Go w l R n0 Y h k n pc Ls (.int x :: rest) := by
  subst hq
  by_cases q : x < 0
  · exact Go.plain (fun T t H K => XS.ifNo H C.hx rfl (C.d hd) rfl ((if0 _ _).trans (tlt q).2.1) K) (G' q)
  · exact Go.plain (fun T t H K => XS.ifYes H C.hx rfl (pc0 := pc) rfl (C.d hd) rfl ((if0 _ _).trans (flt q).2.1) ho hp K) (G q)
theorem g_icmp_gt (C : Cx w Z own bytes ml rt nm R n0 Q Y) {o : Int} {x y : Int32} {pcN : Nat} (hd : decode bytes pc = .ok (.if_icmp .gt o, 3)) (ho : 0 ≤ (pc : Int) + o) (hp : ((pc : Int) + o).toNat = pc') (hq : pc + 3 = pcN) (G : y < x → Go w l R n0 Y h k n pc' Ls rest) (G' : ¬ y < x → Go w l R n0 Y h k n pcN Ls rest) : Go w l R n0 Y h k n pc Ls (.int y :: .int x :: rest) := by
  subst hq
  by_cases q : y < x
  · exact Go.plain (fun T t H K => XS.icmpYes H C.hx rfl (pc0 := pc) rfl (C.d hd) rfl (tlt q).2.2.1 ho hp K) (G q)
  · exact Go.plain (fun T t H K => XS.icmpNo H C.hx rfl (C.d hd) rfl (flt q).2.2.1 K) (G' q)
theorem g_if_gt (C : Cx w Z own bytes ml rt nm R n0 Q Y) {o : Int} {x : Int32} {pcN : Nat} (hd : decode bytes pc = .ok (.ifCond .gt o, 3)) (ho : 0 ≤ (pc : Int) + o) (hp : ((pc : Int) + o).toNat = pc') (hq : pc + 3 = pcN) (G : 0 < x → Go w l R n0 Y h k n pc' Ls rest) (G' : ¬ 0 < x → Go w l R n0 Y h k n pcN Ls rest) : Go w l R n0 Y h k n pc Ls (.int x :: rest) := by
  subst hq
  by_cases q : 0 < x
  · exact Go.plain (fun T t H K => XS.ifYes H C.hx rfl (pc0 := pc) rfl (C.d hd) rfl ((if0 _ _).trans (tlt q).2.2.1) ho hp K) (G q)
  · exact Go.plain (fun T t H K => XS.ifNo H C.hx rfl (C.d hd) rfl ((if0 _ _).trans (flt q).2.2.1) K) (G' q)
theorem g_icmp_le (C : Cx w Z own bytes ml rt nm R n0 Q Y) {o : Int} {x y : Int32} {pcN : Nat} (hd : decode bytes pc = .ok (.if_icmp .le o, 3)) (ho : 0 ≤ (pc : Int) + o) (hp : ((pc : Int) + o).toNat = pc') (hq : pc + 3 = pcN) (G : ¬ y < x → Go w l R n0 Y h k n pc' Ls rest) (G' : y < x → Go w l R n0 Y h k n pcN Ls rest) : Go w l R n0 Y h k n pc Ls (.int y :: .int x :: rest) := by
  subst hq
  by_cases q : y < x
  · exact Go.plain (fun T t H K => XS.icmpNo H C.hx rfl (C.d hd) rfl (tlt q).2.2.2 K) (G' q)
  · exact Go.plain (fun T t H K => XS.icmpYes H C.hx rfl (pc0 := pc) rfl (C.d hd) rfl (flt q).2.2.2 ho hp K) (G q)
theorem g_if_le (C : Cx w Z own bytes ml rt nm R n0 Q Y) {o : Int} {x : Int32} {pcN : Nat} (hd : decode bytes pc = .ok (.ifCond .le o, 3)) (ho : 0 ≤ (pc : Int) + o) (hp : ((pc : Int) + o).toNat = pc') (hq : pc + 3 = pcN) (G : ¬ 0 < x → Go w l R n0 Y h k n pc' Ls rest) (G' : 0 < x → Go w l R n0 Y h k n pcN Ls rest) : Go w l R n0 Y h k n pc Ls (.int x :: rest) := by
  subst hq
  by_cases q : 0 < x
  · exact Go.plain (fun T t H K => XS.ifNo H C.hx rfl (C.d hd) rfl ((if0 _ _).trans (tlt q).2.2.2) K) (G' q)
  · exact Go.plain (fun T t H K => XS.ifYes H C.hx rfl (pc0 := pc) rfl (C.d hd) rfl ((if0 _ _).trans (flt q).2.2.2) ho hp K) (G q)
theorem g_icmp_eq (C : Cx w Z own bytes ml rt nm R n0 Q Y) {o : Int} {x y : Int32} {pcN : Nat} (hd : decode bytes pc = .ok (.if_icmp .eq o, 3)) (ho : 0 ≤ (pc : Int) + o) (hp : ((pc : Int) + o).toNat = pc') (hq : pc + 3 = pcN) (G : x = y → Go w l R n0 Y h k n pc' Ls rest) (G' : ¬ x = y → Go w l R n0 Y h k n pcN Ls rest) : Go w l R n0 Y h k n pc Ls (.int y :: .int x :: rest) := by
  subst hq
  by_cases q : x = y
  · exact Go.plain (fun T t H K => XS.icmpYes H C.hx rfl (pc0 := pc) rfl (C.d hd) rfl (teq q).1 ho hp K) (G q)
  · exact Go.plain (fun T t H K => XS.icmpNo H C.hx rfl (C.d hd) rfl (feq q).1 K) (G' q)
theorem g_if_eq (C : Cx w Z own bytes ml rt nm R n0 Q Y) {o : Int} {x : Int32} {pcN : Nat} (hd : decode bytes pc = .ok (.ifCond .eq o, 3)) (ho : 0 ≤ (pc : Int) + o) (hp : ((pc : Int) + o).toNat = pc') (hq : pc + 3 = pcN) (G : x = 0 → Go w l R n0 Y h k n pc' Ls rest) (G' : ¬ x = 0 → Go w l R n0 Y h k n pcN Ls rest) : Go w l R n0 Y h k n pc Ls (.int x :: rest) := by
  subst hq
  by_cases q : x = 0
  · exact Go.plain (fun T t H K => XS.ifYes H C.hx rfl (pc0 := pc) rfl (C.d hd) rfl ((if0 _ _).trans (teq q).1) ho hp K) (G q)
  · exact Go.plain (fun T t H K => XS.ifNo H C.hx rfl (C.d hd) rfl ((if0 _ _).trans (feq q).1) K) (G' q)
theorem g_icmp_ne (C : Cx w Z own bytes ml rt nm R n0 Q Y) {o : Int} {x y : Int32} {pcN : Nat} (hd : decode bytes pc = .ok (.if_icmp .ne o, 3)) (ho : 0 ≤ (pc : Int) + o) (hp : ((pc : Int) + o).toNat = pc') (hq : pc + 3 = pcN) (G : ¬ x = y → Go w l R n0 Y h k n pc' Ls rest) (G' : x = y → Go w l R n0 Y h k n pcN Ls rest) : Go w l R n0 Y h k n pc Ls (.int y :: .int x :: rest) := by
  subst hq
  by_cases q : x = y
  · exact Go.plain (fun T t H K => XS.icmpNo H C.hx rfl (C.d hd) rfl (teq q).2 K) (G' q)
  · exact Go.plain (fun T t H K => XS.icmpYes H C.hx rfl (pc0 := pc) rfl (C.d hd) rfl (feq q).2 ho hp K) (G q)
theorem g_if_ne (C : Cx w Z own bytes ml rt nm R n0 Q Y) {o : Int} {x : Int32} {pcN : Nat} (hd : decode bytes pc = .ok (.ifCond .ne o, 3)) (ho : 0 ≤ (pc : Int) + o) (hp : ((pc : Int) + o).toNat = pc') (hq : pc + 3 = pcN) (G : ¬ x = 0 → Go w l R n0 Y h k n pc' Ls rest) (G' : x = 0 → Go w l R n0 Y h k n pcN Ls rest) : Go w l R n0 Y h k n pc Ls (.int x :: rest) := by
  subst hq
  by_cases q : x = 0
  · exact Go.plain (fun T t H K => XS.ifNo H C.hx rfl (C.d hd) rfl ((if0 _ _).trans (teq q).2) K) (G' q)
  · exact Go.plain (fun T t H K => XS.ifYes H C.hx rfl (pc0 := pc) rfl (C.d hd) rfl ((if0 _ _).trans (feq q).2) ho hp K) (G q)
theorem g_ifnullY (C : Cx w Z own bytes ml rt nm R n0 Q Y) {o : Int} (hd : decode bytes pc = .ok (.ifnull o, 3)) (ho : 0 ≤ (pc : Int) + o) (hp : ((pc : Int) + o).toNat = pc') (G : Go w l R n0 Y h k n pc' Ls rest) : Go w l R n0 Y h k n pc Ls (.null :: rest) := Go.plain (fun T t H K => XS.ifnullYes H C.hx rfl (pc0 := pc) rfl (C.d hd) rfl ho hp K) G
theorem g_ifnullN (C : Cx w Z own bytes ml rt nm R n0 Q Y) {o : Int} {b : Addr} (hd : decode bytes pc = .ok (.ifnull o, 3)) (hp : pc + 3 = pc') (G : Go w l R n0 Y h k n pc' Ls rest) : Go w l R n0 Y h k n pc Ls (.ref b :: rest) := by subst hp; exact Go.plain (fun T t H K => XS.ifnullNo H C.hx rfl (C.d hd) rfl K) G
theorem g_ifnonnullY (C : Cx w Z own bytes ml rt nm R n0 Q Y) {o : Int} {b : Addr} (hd : decode bytes pc = .ok (.ifnonnull o, 3)) (ho : 0 ≤ (pc : Int) + o) (hp : ((pc : Int) + o).toNat = pc') (G : Go w l R n0 Y h k n pc' Ls rest) : Go w l R n0 Y h k n pc Ls (.ref b :: rest) := Go.plain (fun T t H K => XS.ifnonnullYes H C.hx rfl (pc0 := pc) rfl (C.d hd) rfl ho hp K) G
theorem g_ifnonnullN (C : Cx w Z own bytes ml rt nm R n0 Q Y) {o : Int} (hd : decode bytes pc = .ok (.ifnonnull o, 3)) (hp : pc + 3 = pc') (G : Go w l R n0 Y h k n pc' Ls rest) : Go w l R n0 Y h k n pc Ls (.null :: rest) := by subst hp; exact Go.plain (fun T t H K => XS.ifnonnullNo H C.hx rfl (C.d hd) rfl K) G
theorem g_acmp (C : Cx w Z own bytes ml rt nm R n0 Q Y) {cd : ACond} {o : Int} {x y : Value} (h1 : x.isRef = true) (h2 : y.isRef = true) (same : Bool) (hd : decode bytes pc = .ok (.if_acmp cd o, 3)) (ho : 0 ≤ (pc : Int) + o) (hs : decide (x = y) = same) (hp : pc' = if acV cd same = true then ((pc : Int) + o).toNat else pc + 3) (G : Go w l R n0 Y h k n pc' Ls rest) : Go w l R n0 Y h k n pc Ls (y :: x :: rest) :=
  Go.stand (fun T t locs X hT K => Jvm.RoadKit.acmp (g := mkF w.m pc Ls (y :: x :: rest)) X C.hx rfl h1 h2 (pc0 := pc) rfl (C.d hd) rfl hs ho hp K) G
theorem g_ldcI (C : Cx w Z own bytes ml rt nm R n0 Q Y) {i : Nat} {v : Int32} (w1 : (Jvm.Cond.constant own i v).before a0 Z = true) (hd : decode bytes pc = .ok (.ldc i, 2)) (hp : pc + 2 = pc') (G : Go w l R n0 Y h k n pc' Ls (.int v :: st)) : Go w l R n0 Y h k n pc Ls st := by
  subst hp; exact Go.stand (fun T t locs X hT K => X.ldcInt C.hx C.hown (mvT C.hZ w1) (g := mkF w.m pc Ls st) rfl (C.d hd) _ K) G
theorem g_ldc2J (C : Cx w Z own bytes ml rt nm R n0 Q Y) {i : Nat} {v : Int64} (w1 : (Jvm.Cond.constantLong own i v).before a0 Z = true) (hd : decode bytes pc = .ok (.ldc2_w i, 3)) (hp : pc + 3 = pc') (G : Go w l R n0 Y h k n pc' Ls (.long v :: st)) : Go w l R n0 Y h k n pc Ls st := by
  subst hp; exact Go.stand (fun T t locs X hT K => X.ldc2Long C.hx C.hown (mvT C.hZ w1) (g := mkF w.m pc Ls st) rfl (C.d hd) _ K) G
theorem Go.leave {v : Option Value} (L : Lv w R n0 Q Y) (hv : w.meth.sig.returnType = none → v = none) (hlk : w.meth.locks = false) (hQ : Q v h) (hc : k ≤ R.cells) (hs : n ≤ R.slots)
    (f : ∀ (T : State) (locs : List Loc) (fs : List Frame), Stand w.p l w.e R w.s w.m w.as w.below w.meth w.c T locs k n → (∀ (f : JFrame) (acts : List Action), f.method = w.m → f.locked = none → f.entered = [] → (doReturn w.e (T.setTop f) acts v).1 = T.setFrames fs) → Steps w.p.tables w.e w.below (T.setTop (mkF w.m pc Ls st)) (T.setFrames fs)) : Go w l R n0 Y h k n pc Ls st := by
  intro T locs X hT hn N
  obtain ⟨fs, hr, hrun, hended, hW, hsame⟩ := X.leave (v := v) hv hlk
  exact ⟨_, _, f T locs fs X hr, hrun, hended, L T fs locs k n v hW hsame N (by rw [hT]; exact hn.2) hc hs (by rw [hT]; exact hQ)⟩
theorem g_ret (C : Cx w Z own bytes ml rt nm R n0 Q Y) (hr : rt = none) (hd : decode bytes pc = .ok (.return_, 1)) (hQ : Q none h) (hc : k ≤ R.cells) (hs : n ≤ R.slots) : Go w l R n0 Y h k n pc Ls [] :=
  Go.leave C.lv (v := none) (fun _ => rfl) C.locks hQ hc hs (fun T locs fs X hl => X.returnOut C.hx (C.ret.trans hr) (C.d hd) hl)
theorem g_retI (C : Cx w Z own bytes ml rt nm R n0 Q Y) (hr : rt = some .int) (hd : decode bytes pc = .ok (.ireturn, 1)) {z : Int32} (hQ : Q (some (.int z)) h) (hc : k ≤ R.cells) (hs : n ≤ R.slots) : Go w l R n0 Y h k n pc Ls [.int z] :=
  Go.leave C.lv (v := some (.int z)) (fun q => by rw [C.ret, hr] at q; cases q) C.locks hQ hc hs (fun T locs fs X hl => X.ireturnOut C.hx (t := .int) (C.ret.trans hr) rfl (Or.inl rfl) (C.d hd) hl)
theorem g_retN (C : Cx w Z own bytes ml rt nm R n0 Q Y) {t : FieldType} (hr : rt = some t) (ht : t = .boolean ∨ t = .byte ∨ t = .char ∨ t = .short) (hd : decode bytes pc = .ok (.ireturn, 1)) {z : Int32} (hQ : Q (some (.int (nar t z))) h) (hc : k ≤ R.cells) (hs : n ≤ R.slots) : Go w l R n0 Y h k n pc Ls (.int z :: rest) :=
  Go.leave C.lv (v := some (.int (nar t z))) (fun q => by rw [C.ret, hr] at q; cases q) C.locks hQ hc hs (fun T locs fs X hl => retN X C.hx (C.ret.trans hr) ht (C.d hd) hl)
theorem g_retA (C : Cx w Z own bytes ml rt nm R n0 Q Y) {t : FieldType} {v : Value} (hv : v.isRef = true) (hr : rt = some t) (ht : t.isReference = true) (hd : decode bytes pc = .ok (.areturn, 1)) (hQ : Q (some v) h) (hc : k ≤ R.cells) (hs : n ≤ R.slots) : Go w l R n0 Y h k n pc Ls [v] :=
  Go.leave C.lv (v := some v) (fun q => by rw [C.ret, hr] at q; cases q) C.locks hQ hc hs (fun T locs fs X hl => X.areturnOut C.hx hv (C.ret.trans hr) ht (C.d hd) hl)
theorem g_retL (C : Cx w Z own bytes ml rt nm R n0 Q Y) (hr : rt = some .long) (hd : decode bytes pc = .ok (.lreturn, 1)) {z : Int64} (hQ : Q (some (.long z)) h) (hc : k ≤ R.cells) (hs : n ≤ R.slots) : Go w l R n0 Y h k n pc Ls (.long z :: rest) :=
  Go.leave C.lv (v := some (.long z)) (fun q => by rw [C.ret, hr] at q; cases q) C.locks hQ hc hs (fun T locs fs X hl => by
    have hx := C.hx
    have hd' := C.d hd
    have hr' := C.ret.trans hr
    jvm_step X.here [X.here.top, hx, hd', X.method', hr', narrow]
    first | (intro acts; rw [hl _ acts rfl rfl rfl]) | rw [hl _ _ rfl rfl rfl]
    exact Steps.refl _)
/-- an array by a function of its places -/
def Arf (Z : State) (h : Heap) (a : Addr) (ad : String) (ty : FieldType) (z : Int32) (f : Nat → Value) : Prop := Exa Z h a ad ∧ ∃ c : Cell, Arr Z h a c ty ∧ c.slots.size = z.toNatClampNeg ∧ ¬ z < 0 ∧ ∀ i, i < c.slots.size → c.slots[i]? = some (f i) ∧ fits ty (f i) = true
def upd (f : Nat → Value) (j : Nat) (v : Value) : Nat → Value := fun i => if i = j then v else f i
theorem upd_same (f : Nat → Value) (j : Nat) (v : Value) : upd f j v j = v := by simp [upd]
theorem upd_other {f : Nat → Value} {j i : Nat} {v : Value} (q : i ≠ j) : upd f j v i = f i := by simp [upd, q]
variable {a b : Addr} {ad : String} {ty : FieldType} {z : Int32} {f : Nat → Value} {h' : Heap}
theorem Arf.lt (F : Arf Z h a ad ty z f) : a < h.size := F.1.lt
theorem Arf.exa (F : Arf Z h a ad ty z f) : Exa Z h a ad := F.1
theorem Arf.ext (F : Arf Z h a ad ty z f) (E : Ext h h') : Arf Z h' a ad ty z f := by
  obtain ⟨e, c, A, r⟩ := F; exact ⟨e.ext E, c, A.ext E, r⟩
theorem Arf.other {sl : Nat} {v : Value} (F : Arf Z h b ad ty z f) (W : Wr h h' a sl v) (q : b ≠ a) : Arf Z h' b ad ty z f := by
  obtain ⟨e, c, A, r⟩ := F; exact ⟨e.wr W, c, A.other W q, r⟩
theorem Arf.keep {ws : List Addr} (F : Arf Z h a ad ty z f) (K : Keep h h' ws) (q : a ∉ ws) : Arf Z h' a ad ty z f := by
  obtain ⟨e, c, A, r⟩ := F; exact ⟨e.keep K, c, ⟨K.2.1 _ _ A.1 q, A.2⟩, r⟩
theorem Arf.nn (F : Arf Z h a ad ty z f) : ¬ z < 0 := by obtain ⟨-, c, -, -, r, -⟩ := F; exact r
theorem Arf.fits (F : Arf Z h a ad ty z f) {i : Nat} (q : i < z.toNatClampNeg) : fits ty (f i) = true := by
  obtain ⟨-, c, -, S, -, r⟩ := F; exact (r i (by rw [S]; exact q)).2
theorem Arf.congr {g : Nat → Value} (F : Arf Z h a ad ty z f) (q : ∀ i, i < z.toNatClampNeg → f i = g i) : Arf Z h a ad ty z g := by
  obtain ⟨e, c, A, S, N, r⟩ := F; exact ⟨e, c, A, S, N, fun i hi => by rw [← q i (S ▸ hi)]; exact r i hi⟩
theorem Arf.set {j : Int32} {v : Value} (F : Arf Z h a ad ty z f) (W : Wr h h' a j.toNatClampNeg v) (hv : Jvm.fits ty v = true) (hj : ¬ j < 0) : Arf Z h' a ad ty z (upd f j.toNatClampNeg v) := by
  obtain ⟨e, c, A, S, N, r⟩ := F
  refine ⟨e.wr W, _, A.same W, by rw [sz_set]; exact S, N, fun i hi => ?_⟩
  rw [sz_set] at hi
  by_cases q : i = j.toNatClampNeg
  · subst q; refine ⟨?_, by rw [upd_same]; exact hv⟩
    rw [upd_same]; simp [Cell.setSlot, hi]
  · rw [upd_other q]; refine ⟨?_, (r i hi).2⟩
    rw [← (r i hi).1]; exact Array.getElem?_setIfInBounds_ne (Ne.symm q)
theorem nat_lt {j z : Int32} (h1 : ¬ j < 0) (h2 : j < z) : j.toNatClampNeg < z.toNatClampNeg := by
  rw [Int32.lt_iff_toInt_lt] at h1 h2
  have : (0 : Int32).toInt = 0 := rfl
  simp only [Int32.toNatClampNeg]; omega
theorem Arf.arv (F : Arf Z h a ad ty z f) (d : Value) : ∃ kc, Arv Z h a kc ty z ((List.range z.toNatClampNeg).map f) d := by
  obtain ⟨e, c, A, S, N, r⟩ := F
  refine ⟨c.cls, c, A, rfl, S, N, fun i hi => ?_, fun i hi => ?_⟩
  · rw [(r i hi).1]; rw [S] at hi; simp [List.getD, hi]
  · have q := (r i hi).2; rw [S] at hi; simpa [List.getD, hi] using q
theorem Arf.of_arv {kc : ClassId} {vs : List Value} {d : Value} (e : Exa Z h a ad) (V : Arv Z h a kc ty z vs d) : Arf Z h a ad ty z (fun i => vs.getD i d) := by
  obtain ⟨c, A, -, S, N, H, G⟩ := V
  exact ⟨e, c, A, S, N, fun i hi => ⟨H i hi, G i hi⟩⟩
theorem g_new (C : Cx w Z own bytes ml rt nm R n0 Q Y) {i : Nat} {cl : String} {m : Nat} (w1 : (Jvm.Cond.classLink own i cl).before a0 Z = true) (w2 : (Jvm.Cond.instantiable cl m).before a0 Z = true) (w3 : (Jvm.Cond.initialized cl).before a0 Z = true) (hd : decode bytes pc = .ok (.new i, 3)) (hp : pc + 3 = pc') {k' n' : Nat} (hk : k + 1 = k') (hn : n + m = n') (hc : k' ≤ R.cells) (hs : n' ≤ R.slots)
    (G : ∀ (h' : Heap) (b : Addr), Ext h h' → h.size ≤ b → n0 ≤ b → Exa Z h' b cl → (∀ {O nm d : String} {ty : FieldType}, Laid Z a0 cl O nm d → parseFieldDescriptor d = some ty → Fld Z h' b O nm d (defaultValue ty)) → Go w l R n0 Y h' k' n' pc' Ls (.ref b :: st)) : Go w l R n0 Y h k n pc Ls st := by
  subst hp hk hn
  intro T locs X hT hn N
  obtain ⟨T', h', X', e', E, A, D, -, s'⟩ := newO X C.hx C.hZ C.hown w1 w2 w3 hT (g := mkF w.m pc Ls st) rfl (C.d hd) hc hs
  obtain ⟨s₂, o, h1, h2⟩ := G h' _ E (Nat.le_refl _) hn.1 A D T' locs X' e' (own_grow hn E.1) N
  exact ⟨s₂, o, s' _ h1, h2⟩
theorem g_newarr (C : Cx w Z own bytes ml rt nm R n0 Q Y) {aty : ArrayType} {ad : String} {z : Int32} {cap : Nat} (w1 : (Jvm.Cond.arrayClass (newarray.typeOf aty)).before a0 Z = true) (hd : decode bytes pc = .ok (.newarray aty, 2)) (hp : pc + 2 = pc') (had : "[" ++ (newarray.typeOf aty).toString = ad) (hz : ¬ z < 0) (hcap : z.toNatClampNeg ≤ cap) (hb : cap * 8 ≤ 536870912) {k' n' : Nat} (hk : k + 1 = k') (hn : n + cap = n') (hc : k' ≤ R.cells) (hs : n' ≤ R.slots) (hfit : Jvm.fits (newarray.typeOf aty) (defaultValue (newarray.typeOf aty)) = true)
    (G : ∀ (h' : Heap) (b : Addr), Ext h h' → h.size ≤ b → n0 ≤ b → Arf Z h' b ad (newarray.typeOf aty) z (fun _ => defaultValue (newarray.typeOf aty)) → Go w l R n0 Y h' k' n' pc' Ls (.ref b :: rest)) : Go w l R n0 Y h k n pc Ls (.int z :: rest) := by
  subst hp hk hn
  intro T locs X hT hn N
  obtain ⟨T', h', cA, X', e', E, A, Ex, s'⟩ := newPE X C.hx C.hZ w1 hT (g := mkF w.m pc Ls (.int z :: rest)) rfl (C.d hd) rfl hz hcap hb hc hs had
  obtain ⟨s₂, o, h1, h2⟩ := G h' _ E (Nat.le_refl _) hn.1 ⟨Ex, _, A, sz_new _ _ _, hz, fun i hi => ⟨by rw [sz_new] at hi; simp [newA, hi], hfit⟩⟩ T' locs X' e' (own_grow hn E.1) N
  exact ⟨s₂, o, s' _ h1, h2⟩
theorem g_getF (C : Cx w Z own bytes ml rt nm R n0 Q Y) {R0 O nf d host : String} {i : Nat} {v : Value} (w1 : (Jvm.Cond.fieldLink own i R0 nf d).before a0 Z = true ∨ (Jvm.Cond.fieldLinkNest own i R0 nf d host).before a0 Z = true) (via : Via Z R0 O nf d) (F : Fld Z h a O nf d v) (hd : decode bytes pc = .ok (.getfield i, 3)) (hp : pc + 3 = pc')
    (G : Go w l R n0 Y h k n pc' Ls (v :: rest)) : Go w l R n0 Y h k n pc Ls (.ref a :: rest) := by
  subst hp
  intro T locs X hT hn N
  obtain ⟨T', X', e', s'⟩ := getF X C.hx C.hZ C.hown w1 via hT F (g := mkF w.m pc Ls (.ref a :: rest)) rfl rfl (C.d hd)
  obtain ⟨s₂, o, h1, h2⟩ := G T' locs X' e' hn N
  exact ⟨s₂, o, s' _ h1, h2⟩
theorem g_getS (C : Cx w Z own bytes ml rt nm R n0 Q Y) {R0 O nf d host : String} {i : Nat} {v : Value} (w1 : (Jvm.Cond.fieldLink own i R0 nf d).before a0 Z = true ∨ (Jvm.Cond.fieldLinkNest own i R0 nf d host).before a0 Z = true) (via : Via Z R0 O nf d) (F : Sta Z h O nf d v) (hd : decode bytes pc = .ok (.getstatic i, 3)) (hp : pc + 3 = pc')
    (G : Go w l R n0 Y h k n pc' Ls (v :: st)) : Go w l R n0 Y h k n pc Ls st := by
  subst hp
  intro T locs X hT hn N
  obtain ⟨T', X', e', s'⟩ := getS2 X C.hx C.hZ C.hown w1 via hT F (g := mkF w.m pc Ls st) rfl (C.d hd)
  obtain ⟨s₂, o, h1, h2⟩ := G T' locs X' e' hn N
  exact ⟨s₂, o, s' _ h1, h2⟩
theorem g_putF (C : Cx w Z own bytes ml rt nm R n0 Q Y) {R0 O nf d host cl : String} {i kk : Nat} {ty : FieldType} {v old : Value} (w1 : (Jvm.Cond.fieldLink own i R0 nf d).before a0 Z = true ∨ (Jvm.Cond.fieldLinkNest own i R0 nf d host).before a0 Z = true) (via : Via Z R0 O nf d) (F : Fld Z h a O nf d old) (E : Exa Z h a cl) (L : (Jvm.Cond.lays cl O nf d).before a0 Z = true ∨ ((Jvm.Cond.laysFinal cl O nf d).before a0 Z = true ∧ own = O ∧ nm = "<init>")) (wi : (Jvm.Cond.instantiable cl kk).before a0 Z = true)
    (hty : parseFieldDescriptor d = some ty) (hnr : narrow ty v = v) (hf : Jvm.fits ty v = true) (hd : decode bytes pc = .ok (.putfield i, 3)) (hp : pc + 3 = pc') (ha : n0 ≤ a)
    (G : ∀ h' : Heap, Wr h h' a (Jvm.RoadKit.slotOf Z O nf d) v → Go w l R n0 Y h' k n pc' Ls rest) : Go w l R n0 Y h k n pc Ls (v :: .ref a :: rest) := by
  subst hp
  intro T locs X hT hn N
  obtain ⟨T', h', X', e', W, s'⟩ := putF X C.hx C.hZ C.hown w1 via hT F E (L.imp id fun q => ⟨q.1, q.2.1, C.name.trans q.2.2⟩) wi hty hnr hf (g := mkF w.m pc Ls (v :: .ref a :: rest)) rfl rfl (C.d hd)
  obtain ⟨s₂, o, h1, h2⟩ := G h' W T' _ X' e' (by rw [W.size]; exact hn) (Fr.snoc X' N ha)
  exact ⟨s₂, o, s' _ h1, h2⟩
theorem g_putFN (C : Cx w Z own bytes ml rt nm R n0 Q Y) {R0 O nf d cl : String} {i kk : Nat} {ty : FieldType} {v v' old : Value} (w1 : (Jvm.Cond.fieldLink own i R0 nf d).before a0 Z = true) (via : Via Z R0 O nf d) (F : Fld Z h a O nf d old) (E : Exa Z h a cl) (L : (Jvm.Cond.lays cl O nf d).before a0 Z = true ∨ ((Jvm.Cond.laysFinal cl O nf d).before a0 Z = true ∧ own = O ∧ nm = "<init>")) (wi : (Jvm.Cond.instantiable cl kk).before a0 Z = true)
    (hty : parseFieldDescriptor d = some ty) (hnr : narrow ty v = v') (hf : Jvm.fits ty v' = true) (hd : decode bytes pc = .ok (.putfield i, 3)) (hp : pc + 3 = pc') (ha : n0 ≤ a)
    (G : ∀ h' : Heap, Wr h h' a (Jvm.RoadKit.slotOf Z O nf d) v' → Go w l R n0 Y h' k n pc' Ls rest) : Go w l R n0 Y h k n pc Ls (v :: .ref a :: rest) := by
  subst hp
  intro T locs X hT hn N
  obtain ⟨T', h', X', e', W, s'⟩ := putFN X C.hx C.hZ C.hown w1 via hT F E (L.imp id fun q => ⟨q.1, q.2.1, C.name.trans q.2.2⟩) wi hty hnr hf (g := mkF w.m pc Ls (v :: .ref a :: rest)) rfl rfl (C.d hd)
  obtain ⟨s₂, o, h1, h2⟩ := G h' W T' _ X' e' (by rw [W.size]; exact hn) (Fr.snoc X' N ha)
  exact ⟨s₂, o, s' _ h1, h2⟩
theorem g_bastore (C : Cx w Z own bytes ml rt nm R n0 Q Y) {j x : Int32} (F : Arf Z h a ad .byte z f) (hj : ¬ j < 0) (hz : j < z) (hd : decode bytes pc = .ok (.bastore, 1)) (hp : pc + 1 = pc') (ha : n0 ≤ a)
    (G : ∀ h' : Heap, Wr h h' a j.toNatClampNeg (.int (nar .byte x)) → Arf Z h' a ad .byte z (upd f j.toNatClampNeg (.int (nar .byte x))) → Go w l R n0 Y h' k n pc' Ls rest) : Go w l R n0 Y h k n pc Ls (.int x :: .int j :: .ref a :: rest) := by
  subst hp
  intro T locs X hT hn N
  obtain ⟨-, c, A, S, -⟩ := id F
  obtain ⟨T', h', X', e', W, s'⟩ := stB X C.hx C.hZ hT A (inb_of S ⟨hj, hz⟩) (g := mkF w.m pc Ls (.int x :: .int j :: .ref a :: rest)) rfl rfl (C.d hd)
  obtain ⟨s₂, o, h1, h2⟩ := G h' W (F.set W (fits_nar_byte _) hj) T' _ X' e' (by rw [W.size]; exact hn) (Fr.snoc X' N ha)
  exact ⟨s₂, o, s' _ h1, h2⟩
theorem g_zastore (C : Cx w Z own bytes ml rt nm R n0 Q Y) {j x : Int32} (F : Arf Z h a ad .boolean z f) (hj : ¬ j < 0) (hz : j < z) (hd : decode bytes pc = .ok (.bastore, 1)) (hp : pc + 1 = pc') (ha : n0 ≤ a)
    (G : ∀ h' : Heap, Wr h h' a j.toNatClampNeg (.int (nar .boolean x)) → Arf Z h' a ad .boolean z (upd f j.toNatClampNeg (.int (nar .boolean x))) → Go w l R n0 Y h' k n pc' Ls rest) : Go w l R n0 Y h k n pc Ls (.int x :: .int j :: .ref a :: rest) := by
  subst hp
  intro T locs X hT hn N
  obtain ⟨-, c, A, S, -⟩ := id F
  obtain ⟨T', h', X', e', W, s'⟩ := stZ X C.hx C.hZ hT A (inb_of S ⟨hj, hz⟩) (g := mkF w.m pc Ls (.int x :: .int j :: .ref a :: rest)) rfl rfl (C.d hd)
  obtain ⟨s₂, o, h1, h2⟩ := G h' W (F.set W (fits_nar_bool _) hj) T' _ X' e' (by rw [W.size]; exact hn) (Fr.snoc X' N ha)
  exact ⟨s₂, o, s' _ h1, h2⟩
theorem g_castore (C : Cx w Z own bytes ml rt nm R n0 Q Y) {j x : Int32} (F : Arf Z h a ad .char z f) (hj : ¬ j < 0) (hz : j < z) (hd : decode bytes pc = .ok (.castore, 1)) (hp : pc + 1 = pc') (ha : n0 ≤ a)
    (G : ∀ h' : Heap, Wr h h' a j.toNatClampNeg (.int (nar .char x)) → Arf Z h' a ad .char z (upd f j.toNatClampNeg (.int (nar .char x))) → Go w l R n0 Y h' k n pc' Ls rest) : Go w l R n0 Y h k n pc Ls (.int x :: .int j :: .ref a :: rest) := by
  subst hp
  intro T locs X hT hn N
  obtain ⟨-, c, A, S, -⟩ := id F
  obtain ⟨T', h', X', e', W, s'⟩ := stC X C.hx C.hZ hT A (inb_of S ⟨hj, hz⟩) (g := mkF w.m pc Ls (.int x :: .int j :: .ref a :: rest)) rfl rfl (C.d hd)
  obtain ⟨s₂, o, h1, h2⟩ := G h' W (F.set W (fits_nar_char _) hj) T' _ X' e' (by rw [W.size]; exact hn) (Fr.snoc X' N ha)
  exact ⟨s₂, o, s' _ h1, h2⟩
theorem g_iastore (C : Cx w Z own bytes ml rt nm R n0 Q Y) {j x : Int32} (F : Arf Z h a ad .int z f) (hj : ¬ j < 0) (hz : j < z) (hd : decode bytes pc = .ok (.iastore, 1)) (hp : pc + 1 = pc') (ha : n0 ≤ a)
    (G : ∀ h' : Heap, Wr h h' a j.toNatClampNeg (.int x) → Arf Z h' a ad .int z (upd f j.toNatClampNeg (.int x)) → Go w l R n0 Y h' k n pc' Ls rest) : Go w l R n0 Y h k n pc Ls (.int x :: .int j :: .ref a :: rest) := by
  subst hp
  intro T locs X hT hn N
  obtain ⟨-, c, A, S, -⟩ := id F
  obtain ⟨T', h', X', e', W, s'⟩ := stI X C.hx C.hZ hT A (inb_of S ⟨hj, hz⟩) (g := mkF w.m pc Ls (.int x :: .int j :: .ref a :: rest)) rfl rfl (C.d hd)
  obtain ⟨s₂, o, h1, h2⟩ := G h' W (F.set W (rfl) hj) T' _ X' e' (by rw [W.size]; exact hn) (Fr.snoc X' N ha)
  exact ⟨s₂, o, s' _ h1, h2⟩
theorem g_baload (C : Cx w Z own bytes ml rt nm R n0 Q Y) {j : Int32} {v : Value} (F : Arf Z h a ad .byte z f) (hj : ¬ j < 0) (hz : j < z) (hv : f j.toNatClampNeg = v) (hd : decode bytes pc = .ok (.baload, 1)) (hp : pc + 1 = pc')
    (G : Go w l R n0 Y h k n pc' Ls (v :: rest)) : Go w l R n0 Y h k n pc Ls (.int j :: .ref a :: rest) := by
  subst hp
  obtain ⟨-, c, A, S, -, r⟩ := F
  exact Go.stand (fun T t locs X hT K => X.baloadBytes C.hx (j := j) (v := v) (by rw [hT]; exact A.1) (State.isArrayOf_alike C.hZ.alike A.2.1) A.2.2 (inb_of S ⟨hj, hz⟩) (by rw [(r _ (by rw [S]; exact nat_lt hj hz)).1, hv]) (g := mkF w.m pc Ls (.int j :: .ref a :: rest)) rfl rfl (C.d hd) _ K) G
theorem g_zaload (C : Cx w Z own bytes ml rt nm R n0 Q Y) {j : Int32} {v : Value} (F : Arf Z h a ad .boolean z f) (hj : ¬ j < 0) (hz : j < z) (hv : f j.toNatClampNeg = v) (hd : decode bytes pc = .ok (.baload, 1)) (hp : pc + 1 = pc')
    (G : Go w l R n0 Y h k n pc' Ls (v :: rest)) : Go w l R n0 Y h k n pc Ls (.int j :: .ref a :: rest) := by
  subst hp
  obtain ⟨-, c, A, S, -, r⟩ := F
  exact Go.stand (fun T t locs X hT K => X.baloadBooleans C.hx (j := j) (v := v) (by rw [hT]; exact A.1) (State.isArrayOf_alike C.hZ.alike A.2.1) A.2.2 (inb_of S ⟨hj, hz⟩) (by rw [(r _ (by rw [S]; exact nat_lt hj hz)).1, hv]) (g := mkF w.m pc Ls (.int j :: .ref a :: rest)) rfl rfl (C.d hd) _ K) G
theorem g_caload (C : Cx w Z own bytes ml rt nm R n0 Q Y) {j : Int32} {v : Value} (F : Arf Z h a ad .char z f) (hj : ¬ j < 0) (hz : j < z) (hv : f j.toNatClampNeg = v) (hd : decode bytes pc = .ok (.caload, 1)) (hp : pc + 1 = pc')
    (G : Go w l R n0 Y h k n pc' Ls (v :: rest)) : Go w l R n0 Y h k n pc Ls (.int j :: .ref a :: rest) := by
  subst hp
  obtain ⟨-, c, A, S, -, r⟩ := F
  exact Go.stand (fun T t locs X hT K => X.caload C.hx (j := j) (v := v) (by rw [hT]; exact A.1) (State.isArrayOf_alike C.hZ.alike A.2.1) A.2.2 (inb_of S ⟨hj, hz⟩) (by rw [(r _ (by rw [S]; exact nat_lt hj hz)).1, hv]) (g := mkF w.m pc Ls (.int j :: .ref a :: rest)) rfl rfl (C.d hd) _ K) G
theorem g_iaload (C : Cx w Z own bytes ml rt nm R n0 Q Y) {j : Int32} {v : Value} (F : Arf Z h a ad .int z f) (hj : ¬ j < 0) (hz : j < z) (hv : f j.toNatClampNeg = v) (hd : decode bytes pc = .ok (.iaload, 1)) (hp : pc + 1 = pc')
    (G : Go w l R n0 Y h k n pc' Ls (v :: rest)) : Go w l R n0 Y h k n pc Ls (.int j :: .ref a :: rest) := by
  subst hp
  obtain ⟨-, c, A, S, -, r⟩ := F
  exact Go.stand (fun T t locs X hT K => X.iaload C.hx (j := j) (v := v) (by rw [hT]; exact A.1) (State.isArrayOf_alike C.hZ.alike A.2.1) A.2.2 (inb_of S ⟨hj, hz⟩) (by rw [(r _ (by rw [S]; exact nat_lt hj hz)).1, hv]) (g := mkF w.m pc Ls (.int j :: .ref a :: rest)) rfl rfl (C.d hd) _ K) G
theorem g_aaload (C : Cx w Z own bytes ml rt nm R n0 Q Y) {j : Int32} {v : Value} (hty : ty.isReference = true) (F : Arf Z h a ad ty z f) (hj : ¬ j < 0) (hz : j < z) (hv : f j.toNatClampNeg = v) (hd : decode bytes pc = .ok (.aaload, 1)) (hp : pc + 1 = pc')
    (G : Go w l R n0 Y h k n pc' Ls (v :: rest)) : Go w l R n0 Y h k n pc Ls (.int j :: .ref a :: rest) := by
  subst hp
  obtain ⟨-, c, A, S, -, r⟩ := F
  exact Go.stand (fun T t locs X hT K => X.aaload C.hx (j := j) (v := v) (by rw [hT]; exact A.1) (State.isArrayOf_alike C.hZ.alike A.2.1) hty A.2.2 (inb_of S ⟨hj, hz⟩) (by rw [(r _ (by rw [S]; exact nat_lt hj hz)).1, hv]) (g := mkF w.m pc Ls (.int j :: .ref a :: rest)) rfl rfl (C.d hd) _ K) G
theorem g_len (C : Cx w Z own bytes ml rt nm R n0 Q Y) (F : Arf Z h a ad ty z f) (hd : decode bytes pc = .ok (.arraylength, 1)) (hp : pc + 1 = pc') (G : Go w l R n0 Y h k n pc' Ls (.int z :: rest)) : Go w l R n0 Y h k n pc Ls (.ref a :: rest) := by
  subst hp
  obtain ⟨-, c, A, S, M, r⟩ := F
  refine Go.stand (fun T t locs X hT K => X.arraylength C.hx (by rw [hT]; exact A.1) (State.isArrayOf_alike C.hZ.alike A.2.1) (g := mkF w.m pc Ls (.ref a :: rest)) rfl rfl (C.d hd) _ ?_) G
  rw [len_of S M]; exact K
theorem g_cast (C : Cx w Z own bytes ml rt nm R n0 Q Y) {i : Nat} {cl : String} (w1 : (Jvm.Cond.classLink own i cl).before a0 Z = true) (I : Ins Z h a cl true) (hd : decode bytes pc = .ok (.checkcast i, 3)) (hp : pc + 3 = pc') (G : Go w l R n0 Y h k n pc' Ls (.ref a :: rest)) : Go w l R n0 Y h k n pc Ls (.ref a :: rest) := by
  subst hp
  intro T locs X hT hn N
  obtain ⟨T', X', e', s'⟩ := castY X C.hx C.hZ C.hown w1 hT I (g := mkF w.m pc Ls (.ref a :: rest)) rfl rfl (C.d hd)
  obtain ⟨s₂, o, h1, h2⟩ := G T' locs X' e' hn N
  exact ⟨s₂, o, s' _ h1, h2⟩
theorem g_castNull (C : Cx w Z own bytes ml rt nm R n0 Q Y) {i : Nat} (hd : decode bytes pc = .ok (.checkcast i, 3)) (hp : pc + 3 = pc') (G : Go w l R n0 Y h k n pc' Ls (.null :: rest)) : Go w l R n0 Y h k n pc Ls (.null :: rest) := by
  subst hp
  exact Go.stand (fun T t locs X hT K => X.checkcastNull C.hx (g := mkF w.m pc Ls (.null :: rest)) rfl rfl (C.d hd) _ K) G
theorem g_inst (C : Cx w Z own bytes ml rt nm R n0 Q Y) {i : Nat} {cl : String} (w1 : (Jvm.Cond.classLink own i cl).before a0 Z = true) (I : Ins Z h a cl true) (hd : decode bytes pc = .ok (.instanceof i, 3)) (hp : pc + 3 = pc') (G : Go w l R n0 Y h k n pc' Ls (.int 1 :: rest)) : Go w l R n0 Y h k n pc Ls (.ref a :: rest) := by
  subst hp
  intro T locs X hT hn N
  obtain ⟨T', X', e', s'⟩ := instY X C.hx C.hZ C.hown w1 hT I (g := mkF w.m pc Ls (.ref a :: rest)) rfl rfl (C.d hd)
  obtain ⟨s₂, o, h1, h2⟩ := G T' locs X' e' hn N
  exact ⟨s₂, o, s' _ h1, h2⟩
theorem g_initO (C : Cx w Z own bytes ml rt nm R n0 Q Y) {i : Nat} {W : Nat} (w1 : (Jvm.Cond.methodLink own i Lib.objectInit).before a0 Z = true) (w2 : (Jvm.Cond.instanceMethod Lib.objectInit).before a0 Z = true) (w3 : (Jvm.Cond.code Lib.objectInit ⟨#[0xb1]⟩ 1 none).before a0 Z = true) (hd : decode bytes pc = .ok (.invokespecial i, 3)) (hp : pc + 3 = pc') (hml : Ls.size = ml) (hf : 1 ≤ R.frames) (hW : (rest.map fun v => v.category).sum ≤ W) (hl : W + 12 ≤ R.locals)
    (G : Go w l R n0 Y h k n pc' Ls rest) : Go w l R n0 Y h k n pc Ls (.ref a :: rest) := by
  subst hp
  intro T locs X hT hn N
  obtain ⟨T', X', e', s'⟩ := initO X C.hx C.hZ C.hown w1 w2 w3 hT (g := mkF w.m pc Ls (.ref a :: rest)) rfl (by rw [C.hml]; exact hml) rfl (C.d hd) hf (W := W) (by simpa using hW) hl
  obtain ⟨s₂, o, h1, h2⟩ := G T' locs X' e' hn N
  exact ⟨s₂, o, s' _ h1, h2⟩
/-- what a callee's Back says here -/
abbrev PreB (R : Room) (h : Heap) (rm : Room) (as' : Array Value) : Pt → Array Value → Prop := fun A a => a = as' ∧ A.U.heap = h ∧ A.cells + rm.cells ≤ R.cells ∧ A.slots + rm.slots ≤ R.slots
abbrev PostB (n0 : Nat) (rm : Room) (Qc : Option Value → Heap → Prop) : Pt → Array Value → Option Value → Pt → Prop := fun A _ v B => ∃ L, (Qc v B.U.heap ∧ Fr n0 L ∧ A.U.heap.size ≤ B.U.heap.size) ∧ B.locs = A.locs ++ L ∧ B.cells = A.cells + rm.cells ∧ B.slots = A.slots + rm.slots
theorem Met.back {y : MethodName} {yb : ByteArray} {yl : Nat} {yr : Option FieldType} {rm : Room} {as' : Array Value} {Qc : Option Value → Heap → Prop} {W len : Nat} (M : Met l Z y yb yl yr rm n0 h as' Qc) (hn : n0 ≤ h.size) (hZ : Z.Warmed39 w.s.vm) (wc : (Jvm.Cond.code y yb yl yr).before a0 Z = true) (wz : (Jvm.Cond.initialized y.cls).before a0 Z = true) (hf : rm.frames + 1 ≤ R.frames) (hl : W + (yl + 11) + rm.locals ≤ R.locals) :
    Back l R w.p w.e w.below w.s w.as y len W (PreB R h rm as') (PostB n0 rm Qc) :=
  Back.mono (backOf (W := W) (Q := fun v h' L => Qc v h' ∧ Fr n0 L ∧ h.size ≤ h'.size) (M hn []) hZ wc wz hf hl) (fun P a hp => hp) (fun P a v B hp hq => by
    obtain ⟨L, q, r⟩ := hq
    exact ⟨L, ⟨q.1, q.2.1, by rw [hp.2.1]; exact q.2.2⟩, r⟩)
section Calls
variable {y y' : MethodName} {yb : ByteArray} {yl : Nat} {yr : Option FieldType} {rm : Room} {Qc : Option Value → Heap → Prop} {W i k' n' : Nat} {argsL : List Value} {cl : String}
theorem g_static (C : Cx w Z own bytes ml rt nm R n0 Q Y) (w1 : (Jvm.Cond.methodLink own i y).before a0 Z = true) (w2 : (Jvm.Cond.static y).before a0 Z = true) (w3 : (Jvm.Cond.initialized y.cls).before a0 Z = true) (w4 : (Jvm.Cond.code y yb yl yr).before a0 Z = true) (hy : y.cls ≠ "java/lang/invoke/MethodHandle" ∧ y.cls ≠ "java/lang/invoke/VarHandle")
    (hd : decode bytes pc = .ok (.invokestatic i, 3)) (hp : pc + 3 = pc') (hlen : ∀ sig, parseMethodDescriptor y.desc = some sig → argsL.length = sig.parameters.length) (hst : st = argsL.reverse ++ rest) (hW : (rest.map fun v => v.category).sum ≤ W) (hml : Ls.size = ml)
    (B : n0 ≤ h.size → Back l R w.p w.e w.below w.s w.as y 3 W (PreB R h rm argsL.toArray) (PostB n0 rm Qc)) (hk : k + rm.cells = k') (hn : n + rm.slots = n') (hc : k' ≤ R.cells) (hs : n' ≤ R.slots)
    (G : ∀ (v : Option Value) (h' : Heap), Qc v h' → Go w l R n0 Y h' k' n' pc' Ls (v.toList ++ rest)) : Go w l R n0 Y h k n pc Ls st := by
  subst hp hk hn
  intro T locs X hT hn N
  obtain ⟨v, vm₁, ⟨TB, LB, kB, nB⟩, -, X', ⟨L, hQ, l1, l2, l3⟩, s'⟩ := Jvm.LawKit.callS X C.hx C.hown (mvT C.hZ w1) (mvT C.hZ w2) (mvT C.hZ w3) (mvT C.hZ w4) hy (B hn.1) (g := mkF w.m pc Ls st) rfl (by rw [C.hml]; exact hml) (argsL := argsL) (rest := rest) hlen hst (by simpa using hW) (C.d hd) (fun vm₁ h₁ => ⟨rfl, hT, hc, hs⟩)
  dsimp only [Pt.U, Pt.locs, Pt.cells, Pt.slots] at X' l1 l2 l3 s' hQ
  subst l1 l2 l3
  obtain ⟨s₂, o, h1, h2⟩ := G v TB.heap hQ.1 TB _ X' rfl (own_grow hn (hT ▸ hQ.2.2)) (N.app hQ.2.1)
  exact ⟨s₂, o, s' _ h1, h2⟩
theorem g_special (C : Cx w Z own bytes ml rt nm R n0 Q Y) {yl0 : Nat} {yb0 : ByteArray} (hy1 : y.name = "<init>") (w1 : (Jvm.Cond.methodLink own i y).before a0 Z = true) (w2 : (Jvm.Cond.instanceMethod y).before a0 Z = true) (w4 : (Jvm.Cond.code y yb0 yl0 none).before a0 Z = true) (hy : y.cls ≠ "java/lang/invoke/MethodHandle" ∧ y.cls ≠ "java/lang/invoke/VarHandle")
    (hd : decode bytes pc = .ok (.invokespecial i, 3)) (hp : pc + 3 = pc') (hlen : ∀ sig, parseMethodDescriptor y.desc = some sig → argsL.length = sig.parameters.length) (hst : st = argsL.reverse ++ .ref a :: rest) (hW : (rest.map fun v => v.category).sum ≤ W) (hml : Ls.size = ml)
    (B : n0 ≤ h.size → Back l R w.p w.e w.below w.s w.as y 3 W (PreB R h rm (.ref a :: argsL).toArray) (PostB n0 rm Qc)) (hk : k + rm.cells = k') (hn : n + rm.slots = n') (hc : k' ≤ R.cells) (hs : n' ≤ R.slots)
    (G : ∀ (v : Option Value) (h' : Heap), Qc v h' → Go w l R n0 Y h' k' n' pc' Ls (v.toList ++ rest)) : Go w l R n0 Y h k n pc Ls st := by
  subst hp hk hn
  intro T locs X hT hn N
  obtain ⟨v, vm₁, ⟨TB, LB, kB, nB⟩, -, X', ⟨L, hQ, l1, l2, l3⟩, s'⟩ := X.specialBack C.hx hy1 C.hown (mvT C.hZ w1) (mvT C.hZ w2) (mvT C.hZ w4) hy (B hn.1) (g := mkF w.m pc Ls st) rfl (by rw [C.hml]; exact hml) (Steps.refl _) (a := a) (argsL := argsL) (rest := rest) hlen hst (by simpa using hW) (C.d hd) (fun vm₁ h₁ => ⟨rfl, hT, hc, hs⟩)
  dsimp only [Pt.U, Pt.locs, Pt.cells, Pt.slots] at X' l1 l2 l3 s' hQ
  subst l1 l2 l3
  obtain ⟨s₂, o, h1, h2⟩ := G v TB.heap hQ.1 TB _ X' rfl (own_grow hn (hT ▸ hQ.2.2)) (N.app hQ.2.1)
  exact ⟨s₂, o, s'.trans h1, h2⟩
theorem g_virtual (C : Cx w Z own bytes ml rt nm R n0 Q Y) (w1 : (Jvm.Cond.methodLink own i y).before a0 Z = true) (w2 : (Jvm.Cond.declares y).before a0 Z = true) (nf : NotFace w.s y) (w3 : (Jvm.Cond.selects cl y y').before a0 Z = true) (w4 : (Jvm.Cond.instanceMethod y').before a0 Z = true) (hy : y.cls ≠ "java/lang/invoke/MethodHandle" ∧ y.cls ≠ "java/lang/invoke/VarHandle") (E : Exa Z h a cl)
    (hd : decode bytes pc = .ok (.invokevirtual i, 3)) (hp : pc + 3 = pc') (hlen : ∀ sig, parseMethodDescriptor y.desc = some sig → argsL.length = sig.parameters.length) (hst : st = argsL.reverse ++ .ref a :: rest) (hW : (rest.map fun v => v.category).sum ≤ W) (hml : Ls.size = ml)
    (B : n0 ≤ h.size → Back l R w.p w.e w.below w.s w.as y' 3 W (PreB R h rm (.ref a :: argsL).toArray) (PostB n0 rm Qc)) (hk : k + rm.cells = k') (hn : n + rm.slots = n') (hc : k' ≤ R.cells) (hs : n' ≤ R.slots)
    (G : ∀ (v : Option Value) (h' : Heap), Qc v h' → Go w l R n0 Y h' k' n' pc' Ls (v.toList ++ rest)) : Go w l R n0 Y h k n pc Ls st := by
  subst hp hk hn
  intro T locs X hT hn N
  obtain ⟨cq, kq, qa, qb, qc⟩ := isOf C.hZ hT E
  obtain ⟨v, vm₁, ⟨TB, LB, kB, nB⟩, -, X', ⟨L, hQ, l1, l2, l3⟩, s'⟩ := X.virtualBack C.hx C.hown (mvT C.hZ w1) (mvT C.hZ w2) nf (mvT C.hZ w3) (mvT C.hZ w4) hy (B hn.1) qa qc (g := mkF w.m pc Ls st) rfl (by rw [C.hml]; exact hml) (Steps.refl _) (argsL := argsL) (rest := rest) hlen hst (by simpa using hW) (C.d hd) (fun vm₁ h₁ => ⟨rfl, hT, hc, hs⟩)
  dsimp only [Pt.U, Pt.locs, Pt.cells, Pt.slots] at X' l1 l2 l3 s' hQ
  subst l1 l2 l3
  obtain ⟨s₂, o, h1, h2⟩ := G v TB.heap hQ.1 TB _ X' rfl (own_grow hn (hT ▸ hQ.2.2)) (N.app hQ.2.1)
  exact ⟨s₂, o, s'.trans h1, h2⟩
theorem g_nf (C : Cx w Z own bytes ml rt nm R n0 Q Y) (w3 : (Jvm.Cond.selects cl y y).before a0 Z = true) : NotFace w.s y := notFace_of_selects (args := #[]) (mvT C.hZ w3)
theorem g_selPriv (C : Cx w Z own bytes ml rt nm R n0 Q Y) {yo : MethodName} (hc : yo.cls = y.cls) (w3 : (Jvm.Cond.selects yo.cls yo yo).before a0 Z = true) (w2 : (Jvm.Cond.instanceMethod y).before a0 Z = true) (w5 : (Jvm.Cond.privateMethod y).before a0 Z = true) (hy : y.cls ≠ "java/lang/invoke/MethodHandle" ∧ y.cls ≠ "java/lang/invoke/VarHandle") : (Jvm.Cond.selects y.cls y y).before w.as w.s = true := by
  have h3 : (Jvm.Cond.selects yo.cls yo yo).before w.as w.s = true := mvT C.hZ w3
  obtain ⟨c2, r2, m2, -, -, q3, -, kP, hkP, hkPi⟩ := Cond.selects_spec h3
  exact selects_self_of_private (c := m2.cls) (hc ▸ findClass_of_methodNamed q3) hkP hkPi (Cond.privateMethod_at (mvP C.hZ w5 (args := #[]))) (mvT C.hZ w2) hy
theorem g_private (C : Cx w Z own bytes ml rt nm R n0 Q Y) (w1 : (Jvm.Cond.methodLink own i y).before a0 Z = true) (w2 : (Jvm.Cond.instanceMethod y).before a0 Z = true) (w3 : (Jvm.Cond.selects y.cls y y).before w.as w.s = true) (w5 : (Jvm.Cond.privateMethod y).before a0 Z = true) (w4 : (Jvm.Cond.code y yb yl yr).before a0 Z = true) (hy : y.cls ≠ "java/lang/invoke/MethodHandle" ∧ y.cls ≠ "java/lang/invoke/VarHandle") (E : Exa Z h a cl)
    (hd : decode bytes pc = .ok (.invokevirtual i, 3)) (hp : pc + 3 = pc') (hlen : ∀ sig, parseMethodDescriptor y.desc = some sig → argsL.length = sig.parameters.length) (hst : st = argsL.reverse ++ .ref a :: rest) (hW : (rest.map fun v => v.category).sum ≤ W) (hml : Ls.size = ml)
    (B : n0 ≤ h.size → Back l R w.p w.e w.below w.s w.as y 3 W (PreB R h rm (.ref a :: argsL).toArray) (PostB n0 rm Qc)) (hk : k + rm.cells = k') (hn : n + rm.slots = n') (hc : k' ≤ R.cells) (hs : n' ≤ R.slots)
    (G : ∀ (v : Option Value) (h' : Heap), Qc v h' → Go w l R n0 Y h' k' n' pc' Ls (v.toList ++ rest)) : Go w l R n0 Y h k n pc Ls st := by
  subst hp hk hn
  intro T locs X hT hn N
  obtain ⟨cq, q1, q2⟩ := E.cell
  obtain ⟨v, vm₁, ⟨TB, LB, kB, nB⟩, -, X', ⟨L, hQ, l1, l2, l3⟩, s'⟩ := X.privateBack C.hx C.hown (mvT C.hZ w1) (mvT C.hZ w2) w3 (Cond.privateMethod_at (mvP C.hZ w5 (args := #[]))) (mvT C.hZ w4) hy (B hn.1) (g := mkF w.m pc Ls st) rfl (by rw [C.hml]; exact hml) (Steps.refl _) (a := a) (by rw [hT]; exact q1) q2 (argsL := argsL) (rest := rest) hlen hst (by simpa using hW) (C.d hd) (fun vm₁ h₁ => ⟨rfl, hT, hc, hs⟩)
  dsimp only [Pt.U, Pt.locs, Pt.cells, Pt.slots] at X' l1 l2 l3 s' hQ
  subst l1 l2 l3
  obtain ⟨s₂, o, h1, h2⟩ := G v TB.heap hQ.1 TB _ X' rfl (own_grow hn (hT ▸ hQ.2.2)) (N.app hQ.2.1)
  exact ⟨s₂, o, s'.trans h1, h2⟩
theorem g_iface (C : Cx w Z own bytes ml rt nm R n0 Q Y) {ct : Nat} (w1 : (Jvm.Cond.methodLink own i y).before a0 Z = true) (w2 : (Jvm.Cond.declares y).before a0 Z = true) (w3 : (Jvm.Cond.interfaceMethod y.cls y.cls y.name y.desc).before a0 Z = true) (fa : ((Jvm.Cond.interfaceMethod y.cls y.cls y.name y.desc).onTables && (Jvm.Cond.interfaceMethod y.cls y.cls y.name y.desc).keepsFace) = true) (w4 : (Jvm.Cond.selects cl y y').before a0 Z = true) (w5 : (Jvm.Cond.instanceMethod y').before a0 Z = true) (w6 : (Jvm.Cond.publicMethod y').before a0 Z = true) (w7 : (Jvm.Cond.unhidden cl y.name y.desc).before a0 Z = true) (w8 : (Jvm.Cond.castable cl y.cls).before a0 Z = true) (hy : y.cls ≠ "java/lang/invoke/MethodHandle" ∧ y.cls ≠ "java/lang/invoke/VarHandle") (E : Exa Z h a cl)
    (hd : decode bytes pc = .ok (.invokeinterface i ct, 5)) (hp : pc + 5 = pc') (hlen : ∀ sig, parseMethodDescriptor y.desc = some sig → argsL.length = sig.parameters.length) (hst : st = argsL.reverse ++ .ref a :: rest) (hW : (rest.map fun v => v.category).sum ≤ W) (hml : Ls.size = ml)
    (B : n0 ≤ h.size → Back l R w.p w.e w.below w.s w.as y' 5 W (PreB R h rm (.ref a :: argsL).toArray) (PostB n0 rm Qc)) (hk : k + rm.cells = k') (hn : n + rm.slots = n') (hc : k' ≤ R.cells) (hs : n' ≤ R.slots)
    (G : ∀ (v : Option Value) (h' : Heap), Qc v h' → Go w l R n0 Y h' k' n' pc' Ls (v.toList ++ rest)) : Go w l R n0 Y h k n pc Ls st := by
  subst hp hk hn
  intro T locs X hT hn N
  obtain ⟨cq, kq, qa, qb, qc⟩ := isOf C.hZ hT E
  obtain ⟨v, vm₁, ⟨TB, LB, kB, nB⟩, -, X', ⟨L, hQ, l1, l2, l3⟩, s'⟩ := X.interfaceBack C.hx C.hown (mvT C.hZ w1) (mvT C.hZ w2) (mvT C.hZ w3 fa) (mvT C.hZ w4) (mvT C.hZ w5) (mvT C.hZ w6) (mvT C.hZ w7) (mvT C.hZ w8) hy (B hn.1) qa qb qc (g := mkF w.m pc Ls st) rfl (by rw [C.hml]; exact hml) (Steps.refl _) (argsL := argsL) (rest := rest) hlen hst (by simpa using hW) (C.d hd) (fun vm₁ h₁ => ⟨rfl, hT, hc, hs⟩)
  dsimp only [Pt.U, Pt.locs, Pt.cells, Pt.slots] at X' l1 l2 l3 s' hQ
  subst l1 l2 l3
  obtain ⟨s₂, o, h1, h2⟩ := G v TB.heap hQ.1 TB _ X' rfl (own_grow hn (hT ▸ hQ.2.2)) (N.app hQ.2.1)
  exact ⟨s₂, o, s'.trans h1, h2⟩
end Calls
end OwnKit
section OwnKit2
variable {w : Wk} {l : Launch} {R : Room} {Z : State} {a0 : Array Value} {own : String} {bytes : ByteArray} {ml : Nat} {rt : Option FieldType} {nm : String} {n0 : Nat} {Q : Option Value → Heap → Prop} {Y : State → Outcome → Prop} {h : Heap} {k n pc pc' : Nat} {Ls Ls' : Array Slot} {st rest : List Value} {a b : Addr} {ad : String} {ty : FieldType} {z : Int32} {f : Nat → Value} {h' : Heap}
theorem own_getD (f : Nat → Value) (m i : Nat) (d : Value) (hi : i < m) : ((List.range m).map f).getD i d = f i := by simp [List.getD, hi]
theorem g_clone (C : Cx w Z own bytes ml rt nm R n0 Q Y) {i W cap k' n' : Nat} (w1 : (Jvm.Cond.methodLink own i ⟨ad, "clone", "()Ljava/lang/Object;"⟩).before a0 Z = true) (w2 : (Jvm.Cond.sameMethod ad "java/lang/Object" "clone" "()Ljava/lang/Object;").before a0 Z = true) (w3 : (Jvm.Cond.native ⟨"java/lang/Object", "clone", "()Ljava/lang/Object;"⟩).before a0 Z = true) (w4 : (Jvm.Cond.instanceMethod ⟨"java/lang/Object", "clone", "()Ljava/lang/Object;"⟩).before a0 Z = true) (w5 : (Jvm.Cond.selects ad ⟨ad, "clone", "()Ljava/lang/Object;"⟩ ⟨"java/lang/Object", "clone", "()Ljava/lang/Object;"⟩).before a0 Z = true) (w6 : (Jvm.Cond.castable ad "java/lang/Cloneable").before a0 Z = true)
    (F : Arf Z h a ad ty z f) (hd : decode bytes pc = .ok (.invokevirtual i, 3)) (hp : pc + 3 = pc') (hml : Ls.size = ml) (hf : 1 ≤ R.frames) (hW : (rest.map fun v => v.category).sum ≤ W) (hl : W + 14 ≤ R.locals) (hcap : z.toNatClampNeg ≤ cap) (hk : k + 1 = k') (hn : n + cap = n') (hc : k' ≤ R.cells) (hs : n' ≤ R.slots)
    (G : ∀ (h' : Heap) (b : Addr), Ext h h' → h.size ≤ b → n0 ≤ b → Arf Z h' b ad ty z f → Go w l R n0 Y h' k' n' pc' Ls (.ref b :: rest)) : Go w l R n0 Y h k n pc Ls (.ref a :: rest) := by
  subst hp hk hn
  intro T locs X hT hn N
  obtain ⟨kc, V⟩ := F.arv .null
  obtain ⟨T', h', X', e', E, A, Ex, s'⟩ := cloneH X C.hx C.hZ C.hown w1 w2 w3 w4 w5 w6 hT V.arh F.1 (g := mkF w.m pc Ls (.ref a :: rest)) rfl (by rw [C.hml]; exact hml) rfl (C.d hd) hf (W := W) (by simpa using hW) hl hcap hc hs
  have A' : Arv Z h' h.size kc ty z ((List.range z.toNatClampNeg).map f) .null := A
  obtain ⟨s₂, o, h1, h2⟩ := G h' _ E (Nat.le_refl _) hn.1 ((Arf.of_arv Ex A').congr fun i hi => own_getD _ _ _ _ hi) T' locs X' e' (own_grow hn E.1) N
  exact ⟨s₂, o, s' _ h1, h2⟩
theorem own_acopy_list (f g : Nat → Value) (n m dp sp : Nat) (h : dp + m ≤ n) (i : Nat) (hi : i < n) :
    ((((List.range n).map g).take dp ++ (List.range m).map (fun j => ((List.range (sp + m)).map f).getD (sp + j) .null)) ++ ((List.range n).map g).drop (dp + m)).getD i .null = if dp ≤ i ∧ i < dp + m then f (sp + (i - dp)) else g i := by
  have l1 : (((List.range n).map g).take dp).length = dp := by simp; omega
  by_cases c1 : i < dp
  · rw [if_neg (by omega)]
    simp only [List.getD, List.getElem?_append, l1, List.length_append, List.length_map, List.length_range]
    simp [c1, show i < dp + m by omega, hi, List.getElem?_take]
  · by_cases c2 : i < dp + m
    · rw [if_pos (by omega)]
      simp only [List.getD, List.getElem?_append, l1, List.length_append, List.length_map, List.length_range]
      simp [c1, c2, show i - dp < m by omega, show sp + (i - dp) < sp + m by omega]
    · rw [if_neg (by omega)]
      simp only [List.getD, List.getElem?_append, l1, List.length_append, List.length_map, List.length_range]
      simp [c2, List.getElem?_drop, show dp + m + (i - (dp + m)) = i by omega, hi]
theorem g_acopy (C : Cx w Z own bytes ml rt nm R n0 Q Y) {i W : Nat} {ad' : String} {g : Nat → Value} {z' sp dp m : Int32} (w1 : (Jvm.Cond.methodLink own i Jvm.Stand.acN).before a0 Z = true) (w2 : (Jvm.Cond.native Jvm.Stand.acN).before a0 Z = true) (w3 : (Jvm.Cond.static Jvm.Stand.acN).before a0 Z = true) (w4 : (Jvm.Cond.initialized "java/lang/System").before a0 Z = true)
    (A : Arf Z h a ad ty z f) (B : Arf Z h b ad' ty z' g) (hty : refKind ty = false) (h1 : ¬ sp < 0) (h2 : ¬ dp < 0) (h3 : ¬ m < 0) (h4 : sp.toNatClampNeg + m.toNatClampNeg ≤ z.toNatClampNeg) (h5 : dp.toNatClampNeg + m.toNatClampNeg ≤ z'.toNatClampNeg) (ge : n0 ≤ b)
    (hd : decode bytes pc = .ok (.invokestatic i, 3)) (hp : pc + 3 = pc') (hml : Ls.size = ml) (hf : 1 ≤ R.frames) (hW : (rest.map fun v => v.category).sum ≤ W) (hl : W + 18 ≤ R.locals)
    (G : ∀ h' : Heap, Keep h h' [b] → Arf Z h' b ad' ty z' (fun i => if dp.toNatClampNeg ≤ i ∧ i < dp.toNatClampNeg + m.toNatClampNeg then f (sp.toNatClampNeg + (i - dp.toNatClampNeg)) else g i) → Go w l R n0 Y h' k n pc' Ls rest) : Go w l R n0 Y h k n pc Ls (.int m :: .int dp :: .ref b :: .int sp :: .ref a :: rest) := by
  subst hp
  intro T locs X hT hn N
  obtain ⟨kc, V⟩ := A.arv .null
  obtain ⟨kd, U⟩ := B.arv .null
  obtain ⟨T', h', L, X', e', N', K, A', s'⟩ := cpA X C.hx C.hZ C.hown w1 w2 w3 w4 hT V U (Or.inl ⟨rfl, hty⟩) h1 h2 h3 h4 h5 rfl (by simpa using h5) N ge (g := mkF w.m pc Ls (.int m :: .int dp :: .ref b :: .int sp :: .ref a :: rest)) rfl (by rw [C.hml]; exact hml) rfl (C.d hd) hf (W := W) (by simpa using hW) (by rw [show nativeFrameWords "java/lang/System" "arraycopy" 5 = 7 from by decide]; exact hl)
  have F := (Arf.of_arv (B.1.keep K) A')
  have F' : Arf Z h' b ad' ty z' (fun i => if dp.toNatClampNeg ≤ i ∧ i < dp.toNatClampNeg + m.toNatClampNeg then f (sp.toNatClampNeg + (i - dp.toNatClampNeg)) else g i) := by
    refine F.congr fun i hi => ?_
    show _ = if dp.toNatClampNeg ≤ i ∧ i < dp.toNatClampNeg + m.toNatClampNeg then f (sp.toNatClampNeg + (i - dp.toNatClampNeg)) else g i
    rw [← own_acopy_list f g z'.toNatClampNeg m.toNatClampNeg dp.toNatClampNeg sp.toNatClampNeg h5 i hi]
    congr 2
    congr 1
    apply List.map_congr_left
    intro j hj
    have hj' := List.mem_range.mp hj
    rw [own_getD _ _ _ _ (by omega), own_getD _ _ _ _ (by omega)]
  obtain ⟨s₂, o, g1, g2⟩ := G h' K F' T' L X' e' (own_grow hn K.1) N'
  exact ⟨s₂, o, s' _ g1, g2⟩
end OwnKit2
theorem n32_toInt {n : Nat} (h : n < 2147483648) : (Int32.ofNat n).toInt = n := Int32.toInt_ofNat_of_lt (by omega)
theorem n32_nat {n : Nat} (h : n < 2147483648) : (Int32.ofNat n).toNatClampNeg = n := by rw [Int32.toNatClampNeg, n32_toInt h]; rfl
theorem n32_nn {n : Nat} (h : n < 2147483648) : ¬ Int32.ofNat n < 0 := by
  rw [Int32.lt_iff_toInt_lt, n32_toInt h, show (0 : Int32).toInt = 0 from rfl]; omega
theorem n32_lt {i n : Nat} (h : i < n) (hn : n < 2147483648) : Int32.ofNat i < Int32.ofNat n := by
  rw [Int32.lt_iff_toInt_lt, n32_toInt hn, n32_toInt (by omega)]; omega
theorem n32_ge {i n : Nat} (h : n ≤ i) (hn : i < 2147483648) : ¬ Int32.ofNat i < Int32.ofNat n := by
  rw [Int32.lt_iff_toInt_lt, n32_toInt hn, n32_toInt (by omega)]; omega
theorem n32_succ (i : Nat) : Int32.ofNat i + (1 : Int32) = Int32.ofNat (i + 1) := (Int32.ofNat_add i 1).symm
theorem n32_of {z : Int32} (h : ¬ z < 0) : z = Int32.ofNat z.toNatClampNeg := by
  rw [Int32.lt_iff_toInt_lt, show (0 : Int32).toInt = 0 from rfl] at h
  have r := rng32 z
  rw [← Int32.toInt_inj, n32_toInt (by simp only [Int32.toNatClampNeg]; omega)]
  simp only [Int32.toNatClampNeg]; omega
theorem n32_lit {z : Int32} {n : Nat} (h : z.toInt = n) : z.toNatClampNeg = n := by simp only [Int32.toNatClampNeg]; omega

theorem own_fld {t : Term} {s : State} {args : Array Value} {x : Addr} {C n d : String} {v : Int32} (ht : t.eval args s none [] s = some (.ref x)) (q : (Jvm.Cond.eq (Term.field t C n d) (Term.int v)).value args s none s [] = some true) : Fld s s.heap x C n d (.int v) := by
  refine Fld.start ?_
  have e := fld_at (t := t) (C := C) (n := n) (dd := d) (first := s) (o := none) (idx := []) (s := s) ht
  simp only [Jvm.Cond.value, e] at q
  cases hf : s.fieldOf? x C n d with
  | none => simp [hf] at q
  | some y => rw [hf] at q; cases y <;> simp [Term.eval] at q ⊢; exact q
theorem d1_0 : decode prog_79_method_1_code 0 = .ok (.aload_n 0, 1) := by decide +kernel
theorem d1_1 : decode prog_79_method_1_code 1 = .ok (.aload_n 1, 1) := by decide +kernel
theorem d1_2 : decode prog_79_method_1_code 2 = .ok (.invokevirtual 1, 3) := by decide +kernel
theorem d1_5 : decode prog_79_method_1_code 5 = .ok (.checkcast 2, 3) := by decide +kernel
theorem d1_8 : decode prog_79_method_1_code 8 = .ok (.iconst 0, 1) := by decide +kernel
theorem d1_9 : decode prog_79_method_1_code 9 = .ok (.aload_n 1, 1) := by decide +kernel
theorem d1_10 : decode prog_79_method_1_code 10 = .ok (.arraylength, 1) := by decide +kernel
theorem d1_11 : decode prog_79_method_1_code 11 = .ok (.invokespecial 7, 3) := by decide +kernel
theorem d1_14 : decode prog_79_method_1_code 14 = .ok (.return_, 1) := by decide +kernel
theorem d2_0 : decode prog_79_method_2_code 0 = .ok (.aload_n 0, 1) := by decide +kernel
theorem d2_1 : decode prog_79_method_2_code 1 = .ok (.invokespecial 13, 3) := by decide +kernel
theorem d2_4 : decode prog_79_method_2_code 4 = .ok (.aload_n 0, 1) := by decide +kernel
theorem d2_5 : decode prog_79_method_2_code 5 = .ok (.aload_n 1, 1) := by decide +kernel
theorem d2_6 : decode prog_79_method_2_code 6 = .ok (.putfield 18, 3) := by decide +kernel
theorem d2_9 : decode prog_79_method_2_code 9 = .ok (.aload_n 0, 1) := by decide +kernel
theorem d2_10 : decode prog_79_method_2_code 10 = .ok (.iload_n 2, 1) := by decide +kernel
theorem d2_11 : decode prog_79_method_2_code 11 = .ok (.putfield 21, 3) := by decide +kernel
theorem d2_14 : decode prog_79_method_2_code 14 = .ok (.aload_n 0, 1) := by decide +kernel
theorem d2_15 : decode prog_79_method_2_code 15 = .ok (.iload_n 3, 1) := by decide +kernel
theorem d2_16 : decode prog_79_method_2_code 16 = .ok (.putfield 25, 3) := by decide +kernel
theorem d2_19 : decode prog_79_method_2_code 19 = .ok (.return_, 1) := by decide +kernel
theorem d4_0 : decode prog_79_method_4_code 0 = .ok (.aload_n 0, 1) := by decide +kernel
theorem d4_1 : decode prog_79_method_4_code 1 = .ok (.getfield 21, 3) := by decide +kernel
theorem d4_4 : decode prog_79_method_4_code 4 = .ok (.aload_n 0, 1) := by decide +kernel
theorem d4_5 : decode prog_79_method_4_code 5 = .ok (.getfield 25, 3) := by decide +kernel
theorem d4_8 : decode prog_79_method_4_code 8 = .ok (.if_icmp .ge 7, 3) := by decide +kernel
theorem d4_11 : decode prog_79_method_4_code 11 = .ok (.iconst 1, 1) := by decide +kernel
theorem d4_12 : decode prog_79_method_4_code 12 = .ok (.goto 4, 3) := by decide +kernel
theorem d4_15 : decode prog_79_method_4_code 15 = .ok (.iconst 0, 1) := by decide +kernel
theorem d4_16 : decode prog_79_method_4_code 16 = .ok (.ireturn, 1) := by decide +kernel
theorem d5_0 : decode prog_79_method_6_code 0 = .ok (.aload_n 0, 1) := by decide +kernel
theorem d5_1 : decode prog_79_method_6_code 1 = .ok (.getstatic 42, 3) := by decide +kernel
theorem d5_4 : decode prog_79_method_6_code 4 = .ok (.invokevirtual 52, 3) := by decide +kernel
theorem d5_7 : decode prog_79_method_6_code 7 = .ok (.istore_n 1, 1) := by decide +kernel
theorem d5_8 : decode prog_79_method_6_code 8 = .ok (.new 8, 3) := by decide +kernel
theorem d5_11 : decode prog_79_method_6_code 11 = .ok (.dup, 1) := by decide +kernel
theorem d5_12 : decode prog_79_method_6_code 12 = .ok (.aload_n 0, 1) := by decide +kernel
theorem d5_13 : decode prog_79_method_6_code 13 = .ok (.getfield 18, 3) := by decide +kernel
theorem d5_16 : decode prog_79_method_6_code 16 = .ok (.aload_n 0, 1) := by decide +kernel
theorem d5_17 : decode prog_79_method_6_code 17 = .ok (.getfield 21, 3) := by decide +kernel
theorem d5_20 : decode prog_79_method_6_code 20 = .ok (.aload_n 0, 1) := by decide +kernel
theorem d5_21 : decode prog_79_method_6_code 21 = .ok (.getfield 21, 3) := by decide +kernel
theorem d5_24 : decode prog_79_method_6_code 24 = .ok (.iload_n 1, 1) := by decide +kernel
theorem d5_25 : decode prog_79_method_6_code 25 = .ok (.iadd, 1) := by decide +kernel
theorem d5_26 : decode prog_79_method_6_code 26 = .ok (.invokespecial 7, 3) := by decide +kernel
theorem d5_29 : decode prog_79_method_6_code 29 = .ok (.astore_n 2, 1) := by decide +kernel
theorem d5_30 : decode prog_79_method_6_code 30 = .ok (.aload_n 0, 1) := by decide +kernel
theorem d5_31 : decode prog_79_method_6_code 31 = .ok (.dup, 1) := by decide +kernel
theorem d5_32 : decode prog_79_method_6_code 32 = .ok (.getfield 21, 3) := by decide +kernel
theorem d5_35 : decode prog_79_method_6_code 35 = .ok (.iload_n 1, 1) := by decide +kernel
theorem d5_36 : decode prog_79_method_6_code 36 = .ok (.iadd, 1) := by decide +kernel
theorem d5_37 : decode prog_79_method_6_code 37 = .ok (.putfield 21, 3) := by decide +kernel
theorem d5_40 : decode prog_79_method_6_code 40 = .ok (.aload_n 2, 1) := by decide +kernel
theorem d5_41 : decode prog_79_method_6_code 41 = .ok (.areturn, 1) := by decide +kernel
theorem d6_0 : decode prog_79_method_14_code 0 = .ok (.aload_n 0, 1) := by decide +kernel
theorem d6_1 : decode prog_79_method_14_code 1 = .ok (.getfield 21, 3) := by decide +kernel
theorem d6_4 : decode prog_79_method_14_code 4 = .ok (.istore_n 2, 1) := by decide +kernel
theorem d6_5 : decode prog_79_method_14_code 5 = .ok (.aload_n 0, 1) := by decide +kernel
theorem d6_6 : decode prog_79_method_14_code 6 = .ok (.invokevirtual 38, 3) := by decide +kernel
theorem d6_9 : decode prog_79_method_14_code 9 = .ok (.ifCond .eq 19, 3) := by decide +kernel
theorem d6_12 : decode prog_79_method_14_code 12 = .ok (.aload_n 1, 1) := by decide +kernel
theorem d6_13 : decode prog_79_method_14_code 13 = .ok (.aload_n 0, 1) := by decide +kernel
theorem d6_14 : decode prog_79_method_14_code 14 = .ok (.getfield 18, 3) := by decide +kernel
theorem d6_17 : decode prog_79_method_14_code 17 = .ok (.aload_n 0, 1) := by decide +kernel
theorem d6_18 : decode prog_79_method_14_code 18 = .ok (.getfield 21, 3) := by decide +kernel
theorem d6_21 : decode prog_79_method_14_code 21 = .ok (.baload, 1) := by decide +kernel
theorem d6_22 : decode prog_79_method_14_code 22 = .ok (.invokevirtual 48, 3) := by decide +kernel
theorem d6_25 : decode prog_79_method_14_code 25 = .ok (.ifCond .ne 17, 3) := by decide +kernel
theorem d6_42 : decode prog_79_method_14_code 42 = .ok (.aload_n 0, 1) := by decide +kernel
theorem d6_43 : decode prog_79_method_14_code 43 = .ok (.dup, 1) := by decide +kernel
theorem d6_44 : decode prog_79_method_14_code 44 = .ok (.getfield 21, 3) := by decide +kernel
theorem d6_47 : decode prog_79_method_14_code 47 = .ok (.iconst 1, 1) := by decide +kernel
theorem d6_48 : decode prog_79_method_14_code 48 = .ok (.iadd, 1) := by decide +kernel
theorem d6_49 : decode prog_79_method_14_code 49 = .ok (.putfield 21, 3) := by decide +kernel
theorem d6_52 : decode prog_79_method_14_code 52 = .ok (.aload_n 0, 1) := by decide +kernel
theorem d6_53 : decode prog_79_method_14_code 53 = .ok (.invokevirtual 38, 3) := by decide +kernel
theorem d6_56 : decode prog_79_method_14_code 56 = .ok (.ifCond .ne 17, 3) := by decide +kernel
theorem d6_73 : decode prog_79_method_14_code 73 = .ok (.aload_n 0, 1) := by decide +kernel
theorem d6_74 : decode prog_79_method_14_code 74 = .ok (.getfield 18, 3) := by decide +kernel
theorem d6_77 : decode prog_79_method_14_code 77 = .ok (.aload_n 0, 1) := by decide +kernel
theorem d6_78 : decode prog_79_method_14_code 78 = .ok (.dup, 1) := by decide +kernel
theorem d6_79 : decode prog_79_method_14_code 79 = .ok (.getfield 21, 3) := by decide +kernel
theorem d6_82 : decode prog_79_method_14_code 82 = .ok (.dup_x1, 1) := by decide +kernel
theorem d6_83 : decode prog_79_method_14_code 83 = .ok (.iconst 1, 1) := by decide +kernel
theorem d6_84 : decode prog_79_method_14_code 84 = .ok (.iadd, 1) := by decide +kernel
theorem d6_85 : decode prog_79_method_14_code 85 = .ok (.putfield 21, 3) := by decide +kernel
theorem d6_88 : decode prog_79_method_14_code 88 = .ok (.baload, 1) := by decide +kernel
theorem d6_89 : decode prog_79_method_14_code 89 = .ok (.sipush 255, 3) := by decide +kernel
theorem d6_92 : decode prog_79_method_14_code 92 = .ok (.iand, 1) := by decide +kernel
theorem d6_93 : decode prog_79_method_14_code 93 = .ok (.istore_n 3, 1) := by decide +kernel
theorem d6_94 : decode prog_79_method_14_code 94 = .ok (.iload_n 3, 1) := by decide +kernel
theorem d6_95 : decode prog_79_method_14_code 95 = .ok (.sipush 128, 3) := by decide +kernel
theorem d6_98 : decode prog_79_method_14_code 98 = .ok (.if_icmp .ge 10, 3) := by decide +kernel
theorem d6_101 : decode prog_79_method_14_code 101 = .ok (.iload_n 3, 1) := by decide +kernel
theorem d6_102 : decode prog_79_method_14_code 102 = .ok (.i2l, 1) := by decide +kernel
theorem d6_103 : decode prog_79_method_14_code 103 = .ok (.lstore 4, 2) := by decide +kernel
theorem d6_105 : decode prog_79_method_14_code 105 = .ok (.goto 145, 3) := by decide +kernel
theorem d6_250 : decode prog_79_method_14_code 250 = .ok (.lload 4, 2) := by decide +kernel
theorem d6_252 : decode prog_79_method_14_code 252 = .ok (.aload_n 0, 1) := by decide +kernel
theorem d6_253 : decode prog_79_method_14_code 253 = .ok (.getfield 25, 3) := by decide +kernel
theorem d6_256 : decode prog_79_method_14_code 256 = .ok (.aload_n 0, 1) := by decide +kernel
theorem d6_257 : decode prog_79_method_14_code 257 = .ok (.getfield 21, 3) := by decide +kernel
theorem d6_260 : decode prog_79_method_14_code 260 = .ok (.isub, 1) := by decide +kernel
theorem d6_261 : decode prog_79_method_14_code 261 = .ok (.i2l, 1) := by decide +kernel
theorem d6_262 : decode prog_79_method_14_code 262 = .ok (.lcmp, 1) := by decide +kernel
theorem d6_263 : decode prog_79_method_14_code 263 = .ok (.ifCond .le 17, 3) := by decide +kernel
theorem d6_280 : decode prog_79_method_14_code 280 = .ok (.lload 4, 2) := by decide +kernel
theorem d6_282 : decode prog_79_method_14_code 282 = .ok (.l2i, 1) := by decide +kernel
theorem d6_283 : decode prog_79_method_14_code 283 = .ok (.ireturn, 1) := by decide +kernel
theorem d7_0 : decode prog_81_method_5_code 0 = .ok (.iload_n 1, 1) := by decide +kernel
theorem d7_1 : decode prog_81_method_5_code 1 = .ok (.sipush 255, 3) := by decide +kernel
theorem d7_4 : decode prog_81_method_5_code 4 = .ok (.iand, 1) := by decide +kernel
theorem d7_5 : decode prog_81_method_5_code 5 = .ok (.aload_n 0, 1) := by decide +kernel
theorem d7_6 : decode prog_81_method_5_code 6 = .ok (.getfield 41, 3) := by decide +kernel
theorem d7_9 : decode prog_81_method_5_code 9 = .ok (.if_icmp .ne 7, 3) := by decide +kernel
theorem d7_12 : decode prog_81_method_5_code 12 = .ok (.iconst 1, 1) := by decide +kernel
theorem d7_13 : decode prog_81_method_5_code 13 = .ok (.goto 4, 3) := by decide +kernel
theorem d7_16 : decode prog_81_method_5_code 16 = .ok (.iconst 0, 1) := by decide +kernel
theorem d7_17 : decode prog_81_method_5_code 17 = .ok (.ireturn, 1) := by decide +kernel
theorem d8_0 : decode method_3_code 0 = .ok (.iload_n 2, 1) := by decide +kernel
theorem d8_1 : decode method_3_code 1 = .ok (.ifCond .eq 23, 3) := by decide +kernel
theorem d8_4 : decode method_3_code 4 = .ok (.aload_n 0, 1) := by decide +kernel
theorem d8_5 : decode method_3_code 5 = .ok (.iload_n 1, 1) := by decide +kernel
theorem d8_6 : decode method_3_code 6 = .ok (.iconst 4, 1) := by decide +kernel
theorem d8_7 : decode method_3_code 7 = .ok (.bastore, 1) := by decide +kernel
theorem d8_8 : decode method_3_code 8 = .ok (.aload_n 0, 1) := by decide +kernel
theorem d8_9 : decode method_3_code 9 = .ok (.iload_n 1, 1) := by decide +kernel
theorem d8_10 : decode method_3_code 10 = .ok (.iconst 1, 1) := by decide +kernel
theorem d8_11 : decode method_3_code 11 = .ok (.iadd, 1) := by decide +kernel
theorem d8_12 : decode method_3_code 12 = .ok (.iconst 1, 1) := by decide +kernel
theorem d8_13 : decode method_3_code 13 = .ok (.bastore, 1) := by decide +kernel
theorem d8_14 : decode method_3_code 14 = .ok (.aload_n 0, 1) := by decide +kernel
theorem d8_15 : decode method_3_code 15 = .ok (.iload_n 1, 1) := by decide +kernel
theorem d8_16 : decode method_3_code 16 = .ok (.iconst 2, 1) := by decide +kernel
theorem d8_17 : decode method_3_code 17 = .ok (.iadd, 1) := by decide +kernel
theorem d8_18 : decode method_3_code 18 = .ok (.iload_n 3, 1) := by decide +kernel
theorem d8_19 : decode method_3_code 19 = .ok (.bastore, 1) := by decide +kernel
theorem d8_20 : decode method_3_code 20 = .ok (.iload_n 1, 1) := by decide +kernel
theorem d8_21 : decode method_3_code 21 = .ok (.iconst 3, 1) := by decide +kernel
theorem d8_22 : decode method_3_code 22 = .ok (.iadd, 1) := by decide +kernel
theorem d8_23 : decode method_3_code 23 = .ok (.ireturn, 1) := by decide +kernel
theorem d8_24 : decode method_3_code 24 = .ok (.aload_n 0, 1) := by decide +kernel
theorem d8_25 : decode method_3_code 25 = .ok (.iload_n 1, 1) := by decide +kernel
theorem d8_26 : decode method_3_code 26 = .ok (.iconst 5, 1) := by decide +kernel
theorem d8_27 : decode method_3_code 27 = .ok (.bastore, 1) := by decide +kernel
theorem d8_28 : decode method_3_code 28 = .ok (.aload_n 0, 1) := by decide +kernel
theorem d8_29 : decode method_3_code 29 = .ok (.iload_n 1, 1) := by decide +kernel
theorem d8_30 : decode method_3_code 30 = .ok (.iconst 1, 1) := by decide +kernel
theorem d8_31 : decode method_3_code 31 = .ok (.iadd, 1) := by decide +kernel
theorem d8_32 : decode method_3_code 32 = .ok (.iconst 0, 1) := by decide +kernel
theorem d8_33 : decode method_3_code 33 = .ok (.bastore, 1) := by decide +kernel
theorem d8_34 : decode method_3_code 34 = .ok (.iload_n 1, 1) := by decide +kernel
theorem d8_35 : decode method_3_code 35 = .ok (.iconst 2, 1) := by decide +kernel
theorem d8_36 : decode method_3_code 36 = .ok (.iadd, 1) := by decide +kernel
theorem d8_37 : decode method_3_code 37 = .ok (.ireturn, 1) := by decide +kernel
theorem d9_0 : decode method_4_code 0 = .ok (.iload_n 1, 1) := by decide +kernel
theorem d9_1 : decode method_4_code 1 = .ok (.ifCond .eq 11, 3) := by decide +kernel
theorem d9_4 : decode method_4_code 4 = .ok (.aload_n 0, 1) := by decide +kernel
theorem d9_5 : decode method_4_code 5 = .ok (.invokevirtual 30, 3) := by decide +kernel
theorem d9_8 : decode method_4_code 8 = .ok (.pop, 1) := by decide +kernel
theorem d9_9 : decode method_4_code 9 = .ok (.goto 7, 3) := by decide +kernel
theorem d9_12 : decode method_4_code 12 = .ok (.aload_n 0, 1) := by decide +kernel
theorem d9_13 : decode method_4_code 13 = .ok (.invokevirtual 34, 3) := by decide +kernel
theorem d9_16 : decode method_4_code 16 = .ok (.return_, 1) := by decide +kernel
theorem d10_0 : decode prog_79_method_8_code 0 = .ok (.aload_n 0, 1) := by decide +kernel
theorem d10_1 : decode prog_79_method_8_code 1 = .ok (.getfield 21, 3) := by decide +kernel
theorem d10_4 : decode prog_79_method_8_code 4 = .ok (.istore_n 1, 1) := by decide +kernel
theorem d10_5 : decode prog_79_method_8_code 5 = .ok (.aload_n 0, 1) := by decide +kernel
theorem d10_6 : decode prog_79_method_8_code 6 = .ok (.getstatic 74, 3) := by decide +kernel
theorem d10_9 : decode prog_79_method_8_code 9 = .ok (.invokevirtual 59, 3) := by decide +kernel
theorem d10_12 : decode prog_79_method_8_code 12 = .ok (.arraylength, 1) := by decide +kernel
theorem d10_13 : decode prog_79_method_8_code 13 = .ok (.ifCond .eq 10, 3) := by decide +kernel
theorem d10_23 : decode prog_79_method_8_code 23 = .ok (.return_, 1) := by decide +kernel
theorem d11_0 : decode prog_79_method_13_code 0 = .ok (.aload_n 0, 1) := by decide +kernel
theorem d11_1 : decode prog_79_method_13_code 1 = .ok (.aload_n 1, 1) := by decide +kernel
theorem d11_2 : decode prog_79_method_13_code 2 = .ok (.invokevirtual 52, 3) := by decide +kernel
theorem d11_5 : decode prog_79_method_13_code 5 = .ok (.istore_n 2, 1) := by decide +kernel
theorem d11_6 : decode prog_79_method_13_code 6 = .ok (.aload_n 0, 1) := by decide +kernel
theorem d11_7 : decode prog_79_method_13_code 7 = .ok (.getfield 18, 3) := by decide +kernel
theorem d11_10 : decode prog_79_method_13_code 10 = .ok (.aload_n 0, 1) := by decide +kernel
theorem d11_11 : decode prog_79_method_13_code 11 = .ok (.getfield 21, 3) := by decide +kernel
theorem d11_14 : decode prog_79_method_13_code 14 = .ok (.aload_n 0, 1) := by decide +kernel
theorem d11_15 : decode prog_79_method_13_code 15 = .ok (.getfield 21, 3) := by decide +kernel
theorem d11_18 : decode prog_79_method_13_code 18 = .ok (.iload_n 2, 1) := by decide +kernel
theorem d11_19 : decode prog_79_method_13_code 19 = .ok (.iadd, 1) := by decide +kernel
theorem d11_20 : decode prog_79_method_13_code 20 = .ok (.invokestatic 121, 3) := by decide +kernel
theorem d11_23 : decode prog_79_method_13_code 23 = .ok (.astore_n 3, 1) := by decide +kernel
theorem d11_24 : decode prog_79_method_13_code 24 = .ok (.aload_n 0, 1) := by decide +kernel
theorem d11_25 : decode prog_79_method_13_code 25 = .ok (.dup, 1) := by decide +kernel
theorem d11_26 : decode prog_79_method_13_code 26 = .ok (.getfield 21, 3) := by decide +kernel
theorem d11_29 : decode prog_79_method_13_code 29 = .ok (.iload_n 2, 1) := by decide +kernel
theorem d11_30 : decode prog_79_method_13_code 30 = .ok (.iadd, 1) := by decide +kernel
theorem d11_31 : decode prog_79_method_13_code 31 = .ok (.putfield 21, 3) := by decide +kernel
theorem d11_34 : decode prog_79_method_13_code 34 = .ok (.aload_n 3, 1) := by decide +kernel
theorem d11_35 : decode prog_79_method_13_code 35 = .ok (.areturn, 1) := by decide +kernel
theorem d12_0 : decode jdk_65_method_132_code 0 = .ok (.iload_n 1, 1) := by decide +kernel
theorem d12_1 : decode jdk_65_method_132_code 1 = .ok (.ifCond .ne 9, 3) := by decide +kernel
theorem d12_10 : decode jdk_65_method_132_code 10 = .ok (.aload_n 0, 1) := by decide +kernel
theorem d12_11 : decode jdk_65_method_132_code 11 = .ok (.iload_n 1, 1) := by decide +kernel
theorem d12_12 : decode jdk_65_method_132_code 12 = .ok (.iload_n 2, 1) := by decide +kernel
theorem d12_13 : decode jdk_65_method_132_code 13 = .ok (.invokestatic 339, 3) := by decide +kernel
theorem d12_16 : decode jdk_65_method_132_code 16 = .ok (.areturn, 1) := by decide +kernel
theorem d13_0 : decode jdk_65_method_133_code 0 = .ok (.iload_n 1, 1) := by decide +kernel
theorem d13_1 : decode jdk_65_method_133_code 1 = .ok (.iload_n 2, 1) := by decide +kernel
theorem d13_2 : decode jdk_65_method_133_code 2 = .ok (.invokestatic 343, 3) := by decide +kernel
theorem d13_5 : decode jdk_65_method_133_code 5 = .ok (.iload_n 2, 1) := by decide +kernel
theorem d13_6 : decode jdk_65_method_133_code 6 = .ok (.iload_n 1, 1) := by decide +kernel
theorem d13_7 : decode jdk_65_method_133_code 7 = .ok (.isub, 1) := by decide +kernel
theorem d13_8 : decode jdk_65_method_133_code 8 = .ok (.istore_n 3, 1) := by decide +kernel
theorem d13_9 : decode jdk_65_method_133_code 9 = .ok (.iload_n 3, 1) := by decide +kernel
theorem d13_10 : decode jdk_65_method_133_code 10 = .ok (.newarray .byte, 2) := by decide +kernel
theorem d13_12 : decode jdk_65_method_133_code 12 = .ok (.astore 4, 2) := by decide +kernel
theorem d13_14 : decode jdk_65_method_133_code 14 = .ok (.aload_n 0, 1) := by decide +kernel
theorem d13_15 : decode jdk_65_method_133_code 15 = .ok (.iload_n 1, 1) := by decide +kernel
theorem d13_16 : decode jdk_65_method_133_code 16 = .ok (.aload 4, 2) := by decide +kernel
theorem d13_18 : decode jdk_65_method_133_code 18 = .ok (.iconst 0, 1) := by decide +kernel
theorem d13_19 : decode jdk_65_method_133_code 19 = .ok (.aload_n 0, 1) := by decide +kernel
theorem d13_20 : decode jdk_65_method_133_code 20 = .ok (.arraylength, 1) := by decide +kernel
theorem d13_21 : decode jdk_65_method_133_code 21 = .ok (.iload_n 1, 1) := by decide +kernel
theorem d13_22 : decode jdk_65_method_133_code 22 = .ok (.isub, 1) := by decide +kernel
theorem d13_23 : decode jdk_65_method_133_code 23 = .ok (.iload_n 3, 1) := by decide +kernel
theorem d13_24 : decode jdk_65_method_133_code 24 = .ok (.invokestatic 304, 3) := by decide +kernel
theorem d13_27 : decode jdk_65_method_133_code 27 = .ok (.invokestatic 150, 3) := by decide +kernel
theorem d13_30 : decode jdk_65_method_133_code 30 = .ok (.aload 4, 2) := by decide +kernel
theorem d13_32 : decode jdk_65_method_133_code 32 = .ok (.areturn, 1) := by decide +kernel
theorem d14_0 : decode jdk_65_method_131_code 0 = .ok (.iload_n 1, 1) := by decide +kernel
theorem d14_1 : decode jdk_65_method_131_code 1 = .ok (.iload_n 0, 1) := by decide +kernel
theorem d14_2 : decode jdk_65_method_131_code 2 = .ok (.if_icmp .ge 35, 3) := by decide +kernel
theorem d14_37 : decode jdk_65_method_131_code 37 = .ok (.return_, 1) := by decide +kernel
theorem d15_0 : decode jdk_29_method_69_code 0 = .ok (.iload_n 0, 1) := by decide +kernel
theorem d15_1 : decode jdk_29_method_69_code 1 = .ok (.iload_n 1, 1) := by decide +kernel
theorem d15_2 : decode jdk_29_method_69_code 2 = .ok (.if_icmp .gt 7, 3) := by decide +kernel
theorem d15_5 : decode jdk_29_method_69_code 5 = .ok (.iload_n 0, 1) := by decide +kernel
theorem d15_6 : decode jdk_29_method_69_code 6 = .ok (.goto 4, 3) := by decide +kernel
theorem d15_9 : decode jdk_29_method_69_code 9 = .ok (.iload_n 1, 1) := by decide +kernel
theorem d15_10 : decode jdk_29_method_69_code 10 = .ok (.ireturn, 1) := by decide +kernel
theorem d16_0 : decode prog_79_method_11_code 0 = .ok (.aload_n 0, 1) := by decide +kernel
theorem d16_1 : decode prog_79_method_11_code 1 = .ok (.getstatic 127, 3) := by decide +kernel
theorem d16_4 : decode prog_79_method_11_code 4 = .ok (.invokevirtual 59, 3) := by decide +kernel
theorem d16_7 : decode prog_79_method_11_code 7 = .ok (.areturn, 1) := by decide +kernel
theorem pd_0 : parseMethodDescriptor "([BII)V" = some ⟨[(.array .byte), .int, .int], none⟩ := by decide +kernel
theorem pd_1 : parseMethodDescriptor "()Z" = some ⟨[], some .boolean⟩ := by decide +kernel
theorem pd_2 : parseMethodDescriptor "(B)Z" = some ⟨[.byte], some .boolean⟩ := by decide +kernel
theorem pd_3 : parseMethodDescriptor "(II)V" = some ⟨[.int, .int], none⟩ := by decide +kernel
theorem pd_4 : parseMethodDescriptor "(II)I" = some ⟨[.int, .int], some .int⟩ := by decide +kernel
theorem pd_5 : parseMethodDescriptor "([BII)[B" = some ⟨[(.array .byte), .int, .int], some (.array .byte)⟩ := by decide +kernel
theorem pd_6 : parseMethodDescriptor "(Lcom/example/sigillum/sigillum/codec/DerTag;)I" = some ⟨[(.object "com/example/sigillum/sigillum/codec/DerTag")], some .int⟩ := by decide +kernel
theorem pd_7 : parseMethodDescriptor "(Lcom/example/sigillum/sigillum/codec/DerTag;)[B" = some ⟨[(.object "com/example/sigillum/sigillum/codec/DerTag")], some (.array .byte)⟩ := by decide +kernel
theorem pd_8 : parseMethodDescriptor "()V" = some ⟨[], none⟩ := by decide +kernel
theorem pd_9 : parseMethodDescriptor "()[B" = some ⟨[], some (.array .byte)⟩ := by decide +kernel
theorem pd_10 : parseMethodDescriptor "([B)V" = some ⟨[(.array .byte)], none⟩ := by decide +kernel
theorem pd_11 : parseMethodDescriptor "()Lcom/example/sigillum/sigillum/codec/DerReader;" = some ⟨[], some (.object "com/example/sigillum/sigillum/codec/DerReader")⟩ := by decide +kernel
theorem pd_12 : parseMethodDescriptor "([BIZB)I" = some ⟨[(.array .byte), .int, .boolean, .byte], some .int⟩ := by decide +kernel
theorem pd_13 : parseMethodDescriptor "(Lcom/example/sigillum/sigillum/codec/DerReader;Z)V" = some ⟨[(.object "com/example/sigillum/sigillum/codec/DerReader"), .boolean], none⟩ := by decide +kernel
def Rdr (Z : State) (h : Heap) (a : Addr) (t : Value) (p e : Int32) : Prop := Exa Z h a "com/example/sigillum/sigillum/codec/DerReader" ∧ Fld Z h a "com/example/sigillum/sigillum/codec/DerReader" "der" "[B" t ∧ Fld Z h a "com/example/sigillum/sigillum/codec/DerReader" "position" "I" (.int p) ∧ Fld Z h a "com/example/sigillum/sigillum/codec/DerReader" "end" "I" (.int e)
def own_min (x y : Int32) : Int32 := if y < x then y else x
def R_m_init3 : Room := ({ frames := 1, cells := 0, slots := 0, locals := 12 } : Room)
set_option maxRecDepth 65536 in
set_option maxHeartbeats 40000000 in
theorem m_init3 {l : Launch} {Z : State} {a0 : Array Value} (hw : ∀ d ∈ tables_1, d.before a0 Z = true) {h0 : Heap} {n0 : Nat} (a t : Addr) (p e : Int32) (M : Rdr Z h0 a .null 0 0) (ga : n0 ≤ a) :
    Met l Z (⟨"com/example/sigillum/sigillum/codec/DerReader", "<init>", "([BII)V"⟩ : MethodName) prog_79_method_2_code 4 none R_m_init3 n0 h0 #[(.ref a), (.ref t), (.int p), (.int e)] (fun r h => r = none ∧ Keep h0 h [a] ∧ Rdr Z h a (.ref t) p e) := by
  refine Met.intro (plainFor_of_name (by first | (simp [plainName, overriddenIn, x]; done) | decide +kernel)) (fun mM => (show entryFrame mM #[(.ref a), (.ref t), (.int p), (.int e)] 4 = mkF mM 0 #[.val (.ref a), .val (.ref t), .val (.int p), .val (.int e)] [] from by first | rfl | (simp [entryFrame, mkF, argsToLocals, Value.category]; done))) (fun w Y C => ?_)
  have K := Keep.refl h0 [a]
  obtain ⟨E, F1, F2, F3⟩ := M
  refine g_aloadN C d2_0 (pc' := 1) rfl rfl rfl ?_
  refine g_initO C (W := 0) (hw _ (List.mem_of_getElem? (i := 19) rfl)) (hw _ (List.mem_of_getElem? (i := 20) rfl)) (hw _ (List.mem_of_getElem? (i := 21) rfl)) d2_1 (pc' := 4) rfl rfl (by decide) (Nat.le_of_eq rfl) (by decide) ?_
  refine g_aloadN C d2_4 (pc' := 5) rfl rfl rfl ?_
  refine g_aloadN C d2_5 (pc' := 6) rfl rfl rfl ?_
  refine g_putF (host := "") C (Or.inl (hw _ (List.mem_of_getElem? (i := 22) rfl))) Via.refl F1 E (Or.inr ⟨(hw _ (List.mem_of_getElem? (i := 23) rfl)), rfl, rfl⟩) (hw _ (List.mem_of_getElem? (i := 1) rfl)) (ty := (.array .byte)) (by decide) rfl rfl d2_6 (pc' := 9) rfl ga (fun h41 W42 => ?_)
  have F1 := F1.same W42
  have E := E.wr W42
  have F2 := F2.other W42 (Or.inr (slot_ne (Or.inl (hw _ (List.mem_of_getElem? (i := 25) rfl)) : Laid Z a0 "com/example/sigillum/sigillum/codec/DerReader" "com/example/sigillum/sigillum/codec/DerReader" "position" "I") (Or.inr (hw _ (List.mem_of_getElem? (i := 23) rfl)) : Laid Z a0 "com/example/sigillum/sigillum/codec/DerReader" "com/example/sigillum/sigillum/codec/DerReader" "der" "[B") (by decide) (t := .int) (t' := (.array .byte)) (by decide) (by decide)))
  have F3 := F3.other W42 (Or.inr (slot_ne (Or.inr (hw _ (List.mem_of_getElem? (i := 27) rfl)) : Laid Z a0 "com/example/sigillum/sigillum/codec/DerReader" "com/example/sigillum/sigillum/codec/DerReader" "end" "I") (Or.inr (hw _ (List.mem_of_getElem? (i := 23) rfl)) : Laid Z a0 "com/example/sigillum/sigillum/codec/DerReader" "com/example/sigillum/sigillum/codec/DerReader" "der" "[B") (by decide) (t := .int) (t' := (.array .byte)) (by decide) (by decide)))
  have K := K.wr W42 (Or.inl (by simp))
  refine g_aloadN C d2_9 (pc' := 10) rfl rfl rfl ?_
  refine g_iloadN C d2_10 (pc' := 11) rfl rfl ?_
  refine g_putF (host := "") C (Or.inl (hw _ (List.mem_of_getElem? (i := 24) rfl))) Via.refl F2 E (Or.inl (hw _ (List.mem_of_getElem? (i := 25) rfl))) (hw _ (List.mem_of_getElem? (i := 1) rfl)) (ty := .int) (by decide) rfl rfl d2_11 (pc' := 14) rfl ga (fun h43 W44 => ?_)
  have F2 := F2.same W44
  have E := E.wr W44
  have F1 := F1.other W44 (Or.inr (slot_ne (Or.inr (hw _ (List.mem_of_getElem? (i := 23) rfl)) : Laid Z a0 "com/example/sigillum/sigillum/codec/DerReader" "com/example/sigillum/sigillum/codec/DerReader" "der" "[B") (Or.inl (hw _ (List.mem_of_getElem? (i := 25) rfl)) : Laid Z a0 "com/example/sigillum/sigillum/codec/DerReader" "com/example/sigillum/sigillum/codec/DerReader" "position" "I") (by decide) (t := (.array .byte)) (t' := .int) (by decide) (by decide)))
  have F3 := F3.other W44 (Or.inr (slot_ne (Or.inr (hw _ (List.mem_of_getElem? (i := 27) rfl)) : Laid Z a0 "com/example/sigillum/sigillum/codec/DerReader" "com/example/sigillum/sigillum/codec/DerReader" "end" "I") (Or.inl (hw _ (List.mem_of_getElem? (i := 25) rfl)) : Laid Z a0 "com/example/sigillum/sigillum/codec/DerReader" "com/example/sigillum/sigillum/codec/DerReader" "position" "I") (by decide) (t := .int) (t' := .int) (by decide) (by decide)))
  have K := K.wr W44 (Or.inl (by simp))
  refine g_aloadN C d2_14 (pc' := 15) rfl rfl rfl ?_
  refine g_iloadN C d2_15 (pc' := 16) rfl rfl ?_
  refine g_putF (host := "") C (Or.inl (hw _ (List.mem_of_getElem? (i := 26) rfl))) Via.refl F3 E (Or.inr ⟨(hw _ (List.mem_of_getElem? (i := 27) rfl)), rfl, rfl⟩) (hw _ (List.mem_of_getElem? (i := 1) rfl)) (ty := .int) (by decide) rfl rfl d2_16 (pc' := 19) rfl ga (fun h45 W46 => ?_)
  have F3 := F3.same W46
  have E := E.wr W46
  have F1 := F1.other W46 (Or.inr (slot_ne (Or.inr (hw _ (List.mem_of_getElem? (i := 23) rfl)) : Laid Z a0 "com/example/sigillum/sigillum/codec/DerReader" "com/example/sigillum/sigillum/codec/DerReader" "der" "[B") (Or.inr (hw _ (List.mem_of_getElem? (i := 27) rfl)) : Laid Z a0 "com/example/sigillum/sigillum/codec/DerReader" "com/example/sigillum/sigillum/codec/DerReader" "end" "I") (by decide) (t := (.array .byte)) (t' := .int) (by decide) (by decide)))
  have F2 := F2.other W46 (Or.inr (slot_ne (Or.inl (hw _ (List.mem_of_getElem? (i := 25) rfl)) : Laid Z a0 "com/example/sigillum/sigillum/codec/DerReader" "com/example/sigillum/sigillum/codec/DerReader" "position" "I") (Or.inr (hw _ (List.mem_of_getElem? (i := 27) rfl)) : Laid Z a0 "com/example/sigillum/sigillum/codec/DerReader" "com/example/sigillum/sigillum/codec/DerReader" "end" "I") (by decide) (t := .int) (t' := .int) (by decide) (by decide)))
  have K := K.wr W46 (Or.inl (by simp))
  exact g_ret C rfl d2_19 ⟨rfl, K, ⟨E, F1, F2, F3⟩⟩ (by decide) (by decide)
def R_m_init1 : Room := ({ frames := 2, cells := 1, slots := 9, locals := 27 } : Room)
set_option maxRecDepth 65536 in
set_option maxHeartbeats 40000000 in
theorem m_init1 {l : Launch} {Z : State} {a0 : Array Value} (hw : ∀ d ∈ tables_1, d.before a0 Z = true) {h0 : Heap} {n0 : Nat} (a t : Addr) (z : Int32) (f : Nat → Value) (M : Rdr Z h0 a .null 0 0) (A : Arf Z h0 t "[B" .byte z f) (hz : z.toNatClampNeg ≤ 9) (ga : n0 ≤ a) :
    Met l Z (⟨"com/example/sigillum/sigillum/codec/DerReader", "<init>", "([B)V"⟩ : MethodName) prog_79_method_1_code 2 none R_m_init1 n0 h0 #[(.ref a), (.ref t)] (fun r h => r = none ∧ Keep h0 h [a] ∧ ∃ b : Addr, h0.size ≤ b ∧ n0 ≤ b ∧ Rdr Z h a (.ref b) 0 z ∧ Arf Z h b "[B" .byte z f) := by
  refine Met.intro (plainFor_of_name (by first | (simp [plainName, overriddenIn, x]; done) | decide +kernel)) (fun mM => (show entryFrame mM #[(.ref a), (.ref t)] 2 = mkF mM 0 #[.val (.ref a), .val (.ref t)] [] from by first | rfl | (simp [entryFrame, mkF, argsToLocals, Value.category]; done))) (fun w Y C => ?_)
  have K := Keep.refl h0 [a]
  obtain ⟨E, F1, F2, F3⟩ := M
  refine g_aloadN C d1_0 (pc' := 1) rfl rfl rfl ?_
  refine g_aloadN C d1_1 (pc' := 2) rfl rfl rfl ?_
  refine g_clone (ad := "[B") (cap := 9) C (W := 1) (hw _ (List.mem_of_getElem? (i := 7) rfl)) (hw _ (List.mem_of_getElem? (i := 8) rfl)) (hw _ (List.mem_of_getElem? (i := 12) rfl)) (hw _ (List.mem_of_getElem? (i := 10) rfl)) (hw _ (List.mem_of_getElem? (i := 11) rfl)) (hw _ (List.mem_of_getElem? (i := 13) rfl)) A d1_2 (pc' := 5) rfl rfl (by decide) (Nat.le_of_eq rfl) (by decide) hz (k' := 1) (n' := 9) rfl rfl (by decide) (by decide) ?_
  intro h47 b47 E47 fb47 gb47 A47
  have ne_a_b47 : a ≠ b47 := Nat.ne_of_lt (Nat.lt_of_lt_of_le E.lt fb47)
  have ne_t_b47 : t ≠ b47 := Nat.ne_of_lt (Nat.lt_of_lt_of_le A.lt fb47)
  have sz_b47 : h0.size ≤ b47 := Nat.le_trans K.1 fb47
  have E := E.ext E47
  have F1 := F1.ext E47
  have F2 := F2.ext E47
  have F3 := F3.ext E47
  have A := A.ext E47
  have K := K.ext E47
  refine g_cast C (hw _ (List.mem_of_getElem? (i := 14) rfl)) (Ins.self A47.exa) d1_5 (pc' := 8) rfl ?_
  refine g_iconst C (z := (0 : Int32)) d1_8 (pc' := 9) rfl rfl ?_
  refine g_aloadN C d1_9 (pc' := 10) rfl rfl rfl ?_
  refine g_len C A d1_10 (pc' := 11) rfl ?_
  refine g_special (rm := R_m_init3) (a := a) C (y := (⟨"com/example/sigillum/sigillum/codec/DerReader", "<init>", "([BII)V"⟩ : MethodName)) rfl (hw _ (List.mem_of_getElem? (i := 16) rfl)) (hw _ (List.mem_of_getElem? (i := 17) rfl)) (hw _ (List.mem_of_getElem? (i := 18) rfl)) (by decide) d1_11 (pc' := 14) rfl (argsL := [(.ref b47), (.int (0 : Int32)), (.int z)]) (rest := []) (lenOf pd_0 rfl) rfl (W := 0) (Nat.le_of_eq rfl) rfl (fun hn9 => Met.back (rm := R_m_init3) (m_init3 hw a b47 (0 : Int32) z ⟨E, F1, F2, F3⟩ ga) hn9 C.hZ (hw _ (List.mem_of_getElem? (i := 18) rfl)) (hw _ (List.mem_of_getElem? (i := 2) rfl)) (by decide) (by decide)) (k' := 1) (n' := 9) rfl rfl (by decide) (by decide) ?_
  rintro _ h48 ⟨rfl, Ki, ⟨E_a, F1_a, F2_a, F3_a⟩⟩
  have K := K.trans Ki (allS (Or.inl (by simp)) all0)
  have A47 := A47.keep Ki (ninS (Ne.symm ne_a_b47) nin0)
  show Go w l _ n0 _ h48 1 9 14 #[.val (.ref a), .val (.ref t)] []
  exact g_ret C rfl d1_14 ⟨rfl, K, b47, sz_b47, gb47, ⟨E_a, F1_a, F2_a, F3_a⟩, A47⟩ (by decide) (by decide)
def R_m_hasMore : Room := ({ frames := 0, cells := 0, slots := 0, locals := 0 } : Room)
set_option maxRecDepth 65536 in
set_option maxHeartbeats 40000000 in
theorem m_hasMore {l : Launch} {Z : State} {a0 : Array Value} (hw : ∀ d ∈ tables_1, d.before a0 Z = true) {h0 : Heap} {n0 : Nat} (a : Addr) (p e : Int32) (F2 : Fld Z h0 a "com/example/sigillum/sigillum/codec/DerReader" "position" "I" (.int p)) (F3 : Fld Z h0 a "com/example/sigillum/sigillum/codec/DerReader" "end" "I" (.int e)) :
    Met l Z (⟨"com/example/sigillum/sigillum/codec/DerReader", "hasMore", "()Z"⟩ : MethodName) prog_79_method_4_code 1 (some .boolean) R_m_hasMore n0 h0 #[(.ref a)] (fun r h => r = some (.int (if p < e then 1 else 0)) ∧ h0 = h) := by
  refine Met.intro (plainFor_of_name (by first | (simp [plainName, overriddenIn, x]; done) | decide +kernel)) (fun mM => (show entryFrame mM #[(.ref a)] 1 = mkF mM 0 #[.val (.ref a)] [] from by first | rfl | (simp [entryFrame, mkF, argsToLocals, Value.category]; done))) (fun w Y C => ?_)
  refine g_aloadN C d4_0 (pc' := 1) rfl rfl rfl ?_
  refine g_getF (host := "") C (Or.inl (hw _ (List.mem_of_getElem? (i := 24) rfl))) Via.refl F2 d4_1 (pc' := 4) rfl ?_
  refine g_aloadN C d4_4 (pc' := 5) rfl rfl rfl ?_
  refine g_getF (host := "") C (Or.inl (hw _ (List.mem_of_getElem? (i := 26) rfl))) Via.refl F3 d4_5 (pc' := 8) rfl ?_
  refine g_icmp_ge C d4_8 (by decide) (pc' := 15) (by decide) (pcN := 11) rfl (fun q8 => ?_) (fun q8 => ?_)
  · refine g_iconst C (z := (0 : Int32)) d4_15 (pc' := 16) rfl rfl ?_
    exact g_retN C (t := .boolean) rfl (by simp) d4_16 ⟨by rw [if_neg q8]; rfl, rfl⟩ (by decide) (by decide)
  · refine g_iconst C (z := (1 : Int32)) d4_11 (pc' := 12) rfl rfl ?_
    refine g_goto C d4_12 (by decide) (pc' := 16) (by decide) ?_
    exact g_retN C (t := .boolean) rfl (by simp) d4_16 ⟨by rw [if_pos q8]; rfl, rfl⟩ (by decide) (by decide)
def R_m_ident : Room := ({ frames := 0, cells := 0, slots := 0, locals := 0 } : Room)
set_option maxRecDepth 65536 in
set_option maxHeartbeats 40000000 in
theorem m_ident {l : Launch} {Z : State} {a0 : Array Value} (hw : ∀ d ∈ tables_1, d.before a0 Z = true) {h0 : Heap} {n0 : Nat} (a : Addr) (p v : Int32) (F : Fld Z h0 a "com/example/sigillum/sigillum/codec/DerTag" "identifier" "I" (.int v)) :
    Met l Z (⟨"com/example/sigillum/sigillum/codec/DerTag", "identifies", "(B)Z"⟩ : MethodName) prog_81_method_5_code 2 (some .boolean) R_m_ident n0 h0 #[(.ref a), (.int p)] (fun r h => r = some (.int (if p &&& 255 = v then 1 else 0)) ∧ h0 = h) := by
  refine Met.intro (plainFor_of_name (by first | (simp [plainName, overriddenIn, x]; done) | decide +kernel)) (fun mM => (show entryFrame mM #[(.ref a), (.int p)] 2 = mkF mM 0 #[.val (.ref a), .val (.int p)] [] from by first | rfl | (simp [entryFrame, mkF, argsToLocals, Value.category]; done))) (fun w Y C => ?_)
  refine g_iloadN C d7_0 (pc' := 1) rfl rfl ?_
  refine g_sipush C (z := (255 : Int32)) d7_1 (pc' := 4) rfl rfl ?_
  refine g_iand C d7_4 (pc' := 5) rfl ?_
  refine g_aloadN C d7_5 (pc' := 6) rfl rfl rfl ?_
  refine g_getF (host := "") C (Or.inl (hw _ (List.mem_of_getElem? (i := 51) rfl))) Via.refl F d7_6 (pc' := 9) rfl ?_
  refine g_icmp_ne C d7_9 (by decide) (pc' := 16) (by decide) (pcN := 12) rfl (fun q9 => ?_) (fun q9 => ?_)
  · refine g_iconst C (z := (0 : Int32)) d7_16 (pc' := 17) rfl rfl ?_
    exact g_retN C (t := .boolean) rfl (by simp) d7_17 ⟨by rw [if_neg q9]; rfl, rfl⟩ (by decide) (by decide)
  · refine g_iconst C (z := (1 : Int32)) d7_12 (pc' := 13) rfl rfl ?_
    refine g_goto C d7_13 (by decide) (pc' := 17) (by decide) ?_
    exact g_retN C (t := .boolean) rfl (by simp) d7_17 ⟨by rw [if_pos q9]; rfl, rfl⟩ (by decide) (by decide)
def R_m_header : Room := ({ frames := 1, cells := 0, slots := 0, locals := 13 } : Room)
set_option maxRecDepth 65536 in
set_option maxHeartbeats 40000000 in
theorem m_header {l : Launch} {Z : State} {a0 : Array Value} (hw : ∀ d ∈ tables_1, d.before a0 Z = true) {h0 : Heap} {n0 : Nat} (a t g : Addr) (p e z T B L i p2 : Int32) (f : Nat → Value) (M : Rdr Z h0 a (.ref t) p e) (A : Arf Z h0 t "[B" .byte z f) (Eg : Exa Z h0 g "com/example/sigillum/sigillum/codec/DerTag") (Fg : Fld Z h0 g "com/example/sigillum/sigillum/codec/DerTag" "identifier" "I" (.int i)) (ga : n0 ≤ a) (ne_t_a : t ≠ a) (h1 : ¬ p < 0) (h2 : p < e) (h3 : p < z) (v1 : f p.toNatClampNeg = .int T) (h4 : T &&& 255 = i) (h5 : p + 1 < e) (h6 : ¬ p + 1 < 0) (h7 : p + 1 < z) (v2 : f (p + 1).toNatClampNeg = .int B) (h8 : B &&& 255 < 128) (h9 : ¬ 0 < lcmpW (B &&& 255).toInt64 (e - (p + 1 + 1)).toInt64) (hL : (B &&& 255).toInt64.toInt32 = L) (hp2 : p + 1 + 1 = p2) :
    Met l Z (⟨"com/example/sigillum/sigillum/codec/DerReader", "header", "(Lcom/example/sigillum/sigillum/codec/DerTag;)I"⟩ : MethodName) prog_79_method_14_code 8 (some .int) R_m_header n0 h0 #[(.ref a), (.ref g)] (fun r h => r = some (.int L) ∧ Keep h0 h [a] ∧ Rdr Z h a (.ref t) p2 e) := by
  refine Met.intro (plainFor_of_name (by first | (simp [plainName, overriddenIn, x]; done) | decide +kernel)) (fun mM => (show entryFrame mM #[(.ref a), (.ref g)] 8 = mkF mM 0 #[.val (.ref a), .val (.ref g), .unset, .unset, .unset, .unset, .unset, .unset] [] from by first | rfl | (simp [entryFrame, mkF, argsToLocals, Value.category]; done))) (fun w Y C => ?_)
  have K := Keep.refl h0 [a]
  obtain ⟨E, F1, F2, F3⟩ := M
  subst hp2
  refine g_aloadN C d6_0 (pc' := 1) rfl rfl rfl ?_
  refine g_getF (host := "") C (Or.inl (hw _ (List.mem_of_getElem? (i := 24) rfl))) Via.refl F2 d6_1 (pc' := 4) rfl ?_
  refine g_istoreN C d6_4 (pc' := 5) rfl (Ls' := #[.val (.ref a), .val (.ref g), .val (.int p), .unset, .unset, .unset, .unset, .unset]) rfl ?_
  refine g_aloadN C d6_5 (pc' := 6) rfl rfl rfl ?_
  refine g_virtual (rm := R_m_hasMore) (a := a) C (y := (⟨"com/example/sigillum/sigillum/codec/DerReader", "hasMore", "()Z"⟩ : MethodName)) (y' := (⟨"com/example/sigillum/sigillum/codec/DerReader", "hasMore", "()Z"⟩ : MethodName)) (hw _ (List.mem_of_getElem? (i := 45) rfl)) (hw _ (List.mem_of_getElem? (i := 29) rfl)) (g_nf C (hw _ (List.mem_of_getElem? (i := 31) rfl))) (hw _ (List.mem_of_getElem? (i := 31) rfl)) (hw _ (List.mem_of_getElem? (i := 30) rfl)) (by decide) E d6_6 (pc' := 9) rfl (argsL := []) (rest := []) (lenOf pd_1 rfl) rfl (W := 0) (Nat.le_of_eq rfl) rfl (fun hn9 => Met.back (rm := R_m_hasMore) (m_hasMore hw a p e F2 F3) hn9 C.hZ (hw _ (List.mem_of_getElem? (i := 32) rfl)) (hw _ (List.mem_of_getElem? (i := 2) rfl)) (by decide) (by decide)) (k' := 0) (n' := 0) rfl rfl (by decide) (by decide) ?_
  rintro _ _ ⟨rfl, rfl⟩
  show Go w l _ n0 _ h0 0 0 9 #[.val (.ref a), .val (.ref g), .val (.int p), .unset, .unset, .unset, .unset, .unset] [(.int (if p < e then (1 : Int32) else 0))]
  refine g_if_eq C d6_9 (by decide) (pc' := 28) (by decide) (pcN := 12) rfl (fun q => absurd q (by rw [if_pos h2]; decide)) (fun _ => ?_)
  refine g_aloadN C d6_12 (pc' := 13) rfl rfl rfl ?_
  refine g_aloadN C d6_13 (pc' := 14) rfl rfl rfl ?_
  refine g_getF (host := "") C (Or.inl (hw _ (List.mem_of_getElem? (i := 22) rfl))) Via.refl F1 d6_14 (pc' := 17) rfl ?_
  refine g_aloadN C d6_17 (pc' := 18) rfl rfl rfl ?_
  refine g_getF (host := "") C (Or.inl (hw _ (List.mem_of_getElem? (i := 24) rfl))) Via.refl F2 d6_18 (pc' := 21) rfl ?_
  refine g_baload C (v := (.int T)) A h1 h3 v1 d6_21 (pc' := 22) rfl ?_
  refine g_virtual (rm := R_m_ident) (a := g) C (y := (⟨"com/example/sigillum/sigillum/codec/DerTag", "identifies", "(B)Z"⟩ : MethodName)) (y' := (⟨"com/example/sigillum/sigillum/codec/DerTag", "identifies", "(B)Z"⟩ : MethodName)) (hw _ (List.mem_of_getElem? (i := 46) rfl)) (hw _ (List.mem_of_getElem? (i := 47) rfl)) (g_nf C (hw _ (List.mem_of_getElem? (i := 49) rfl))) (hw _ (List.mem_of_getElem? (i := 49) rfl)) (hw _ (List.mem_of_getElem? (i := 48) rfl)) (by decide) Eg d6_22 (pc' := 25) rfl (argsL := [(.int T)]) (rest := []) (lenOf pd_2 rfl) rfl (W := 0) (Nat.le_of_eq rfl) rfl (fun hn9 => Met.back (rm := R_m_ident) (m_ident hw g T i Fg) hn9 C.hZ (hw _ (List.mem_of_getElem? (i := 50) rfl)) (hw _ (List.mem_of_getElem? (i := 39) rfl)) (by decide) (by decide)) (k' := 0) (n' := 0) rfl rfl (by decide) (by decide) ?_
  rintro _ _ ⟨rfl, rfl⟩
  show Go w l _ n0 _ h0 0 0 25 #[.val (.ref a), .val (.ref g), .val (.int p), .unset, .unset, .unset, .unset, .unset] [(.int (if T &&& 255 = i then (1 : Int32) else 0))]
  refine g_if_ne C d6_25 (by decide) (pc' := 42) (by decide) (pcN := 28) rfl (fun _ => ?_) (fun q => absurd q (by rw [if_pos h4]; decide))
  refine g_aloadN C d6_42 (pc' := 43) rfl rfl rfl ?_
  refine g_dup C d6_43 (pc' := 44) rfl rfl ?_
  refine g_getF (host := "") C (Or.inl (hw _ (List.mem_of_getElem? (i := 24) rfl))) Via.refl F2 d6_44 (pc' := 47) rfl ?_
  refine g_iconst C (z := (1 : Int32)) d6_47 (pc' := 48) rfl rfl ?_
  refine g_iadd C d6_48 (pc' := 49) rfl ?_
  refine g_putF (host := "") C (Or.inl (hw _ (List.mem_of_getElem? (i := 24) rfl))) Via.refl F2 E (Or.inl (hw _ (List.mem_of_getElem? (i := 25) rfl))) (hw _ (List.mem_of_getElem? (i := 1) rfl)) (ty := .int) (by decide) rfl rfl d6_49 (pc' := 52) rfl ga (fun h49 W50 => ?_)
  have F2 := F2.same W50
  have E := E.wr W50
  have F1 := F1.other W50 (Or.inr (slot_ne (Or.inr (hw _ (List.mem_of_getElem? (i := 23) rfl)) : Laid Z a0 "com/example/sigillum/sigillum/codec/DerReader" "com/example/sigillum/sigillum/codec/DerReader" "der" "[B") (Or.inl (hw _ (List.mem_of_getElem? (i := 25) rfl)) : Laid Z a0 "com/example/sigillum/sigillum/codec/DerReader" "com/example/sigillum/sigillum/codec/DerReader" "position" "I") (by decide) (t := (.array .byte)) (t' := .int) (by decide) (by decide)))
  have F3 := F3.other W50 (Or.inr (slot_ne (Or.inr (hw _ (List.mem_of_getElem? (i := 27) rfl)) : Laid Z a0 "com/example/sigillum/sigillum/codec/DerReader" "com/example/sigillum/sigillum/codec/DerReader" "end" "I") (Or.inl (hw _ (List.mem_of_getElem? (i := 25) rfl)) : Laid Z a0 "com/example/sigillum/sigillum/codec/DerReader" "com/example/sigillum/sigillum/codec/DerReader" "position" "I") (by decide) (t := .int) (t' := .int) (by decide) (by decide)))
  have A := A.other W50 ne_t_a
  have Eg := Eg.wr W50
  have K := K.wr W50 (Or.inl (by simp))
  refine g_aloadN C d6_52 (pc' := 53) rfl rfl rfl ?_
  refine g_virtual (rm := R_m_hasMore) (a := a) C (y := (⟨"com/example/sigillum/sigillum/codec/DerReader", "hasMore", "()Z"⟩ : MethodName)) (y' := (⟨"com/example/sigillum/sigillum/codec/DerReader", "hasMore", "()Z"⟩ : MethodName)) (hw _ (List.mem_of_getElem? (i := 45) rfl)) (hw _ (List.mem_of_getElem? (i := 29) rfl)) (g_nf C (hw _ (List.mem_of_getElem? (i := 31) rfl))) (hw _ (List.mem_of_getElem? (i := 31) rfl)) (hw _ (List.mem_of_getElem? (i := 30) rfl)) (by decide) E d6_53 (pc' := 56) rfl (argsL := []) (rest := []) (lenOf pd_1 rfl) rfl (W := 0) (Nat.le_of_eq rfl) rfl (fun hn9 => Met.back (rm := R_m_hasMore) (m_hasMore hw a (p + (1 : Int32)) e F2 F3) hn9 C.hZ (hw _ (List.mem_of_getElem? (i := 32) rfl)) (hw _ (List.mem_of_getElem? (i := 2) rfl)) (by decide) (by decide)) (k' := 0) (n' := 0) rfl rfl (by decide) (by decide) ?_
  rintro _ _ ⟨rfl, rfl⟩
  show Go w l _ n0 _ h49 0 0 56 #[.val (.ref a), .val (.ref g), .val (.int p), .unset, .unset, .unset, .unset, .unset] [(.int (if (p + (1 : Int32)) < e then (1 : Int32) else 0))]
  refine g_if_ne C d6_56 (by decide) (pc' := 73) (by decide) (pcN := 59) rfl (fun _ => ?_) (fun q => absurd q (by rw [if_pos h5]; decide))
  refine g_aloadN C d6_73 (pc' := 74) rfl rfl rfl ?_
  refine g_getF (host := "") C (Or.inl (hw _ (List.mem_of_getElem? (i := 22) rfl))) Via.refl F1 d6_74 (pc' := 77) rfl ?_
  refine g_aloadN C d6_77 (pc' := 78) rfl rfl rfl ?_
  refine g_dup C d6_78 (pc' := 79) rfl rfl ?_
  refine g_getF (host := "") C (Or.inl (hw _ (List.mem_of_getElem? (i := 24) rfl))) Via.refl F2 d6_79 (pc' := 82) rfl ?_
  refine g_dupX1 C d6_82 (pc' := 83) rfl rfl rfl ?_
  refine g_iconst C (z := (1 : Int32)) d6_83 (pc' := 84) rfl rfl ?_
  refine g_iadd C d6_84 (pc' := 85) rfl ?_
  refine g_putF (host := "") C (Or.inl (hw _ (List.mem_of_getElem? (i := 24) rfl))) Via.refl F2 E (Or.inl (hw _ (List.mem_of_getElem? (i := 25) rfl))) (hw _ (List.mem_of_getElem? (i := 1) rfl)) (ty := .int) (by decide) rfl rfl d6_85 (pc' := 88) rfl ga (fun h51 W52 => ?_)
  have F2 := F2.same W52
  have E := E.wr W52
  have F1 := F1.other W52 (Or.inr (slot_ne (Or.inr (hw _ (List.mem_of_getElem? (i := 23) rfl)) : Laid Z a0 "com/example/sigillum/sigillum/codec/DerReader" "com/example/sigillum/sigillum/codec/DerReader" "der" "[B") (Or.inl (hw _ (List.mem_of_getElem? (i := 25) rfl)) : Laid Z a0 "com/example/sigillum/sigillum/codec/DerReader" "com/example/sigillum/sigillum/codec/DerReader" "position" "I") (by decide) (t := (.array .byte)) (t' := .int) (by decide) (by decide)))
  have F3 := F3.other W52 (Or.inr (slot_ne (Or.inr (hw _ (List.mem_of_getElem? (i := 27) rfl)) : Laid Z a0 "com/example/sigillum/sigillum/codec/DerReader" "com/example/sigillum/sigillum/codec/DerReader" "end" "I") (Or.inl (hw _ (List.mem_of_getElem? (i := 25) rfl)) : Laid Z a0 "com/example/sigillum/sigillum/codec/DerReader" "com/example/sigillum/sigillum/codec/DerReader" "position" "I") (by decide) (t := .int) (t' := .int) (by decide) (by decide)))
  have A := A.other W52 ne_t_a
  have Eg := Eg.wr W52
  have K := K.wr W52 (Or.inl (by simp))
  refine g_baload C (v := (.int B)) A h6 h7 v2 d6_88 (pc' := 89) rfl ?_
  refine g_sipush C (z := (255 : Int32)) d6_89 (pc' := 92) rfl rfl ?_
  refine g_iand C d6_92 (pc' := 93) rfl ?_
  refine g_istoreN C d6_93 (pc' := 94) rfl (Ls' := #[.val (.ref a), .val (.ref g), .val (.int p), .val (.int (B &&& (255 : Int32))), .unset, .unset, .unset, .unset]) rfl ?_
  refine g_iloadN C d6_94 (pc' := 95) rfl rfl ?_
  refine g_sipush C (z := (128 : Int32)) d6_95 (pc' := 98) rfl rfl ?_
  refine g_icmp_ge C d6_98 (by decide) (pc' := 108) (by decide) (pcN := 101) rfl (fun q => absurd h8 q) (fun _ => ?_)
  refine g_iloadN C d6_101 (pc' := 102) rfl rfl ?_
  refine g_i2l C d6_102 (pc' := 103) rfl ?_
  refine g_lstore C d6_103 (pc' := 105) rfl (Ls' := #[.val (.ref a), .val (.ref g), .val (.int p), .val (.int (B &&& (255 : Int32))), .val (.long ((B &&& (255 : Int32)).toInt64)), .second, .unset, .unset]) rfl ?_
  refine g_goto C d6_105 (by decide) (pc' := 250) (by decide) ?_
  refine g_lload C d6_250 (pc' := 252) rfl rfl ?_
  refine g_aloadN C d6_252 (pc' := 253) rfl rfl rfl ?_
  refine g_getF (host := "") C (Or.inl (hw _ (List.mem_of_getElem? (i := 26) rfl))) Via.refl F3 d6_253 (pc' := 256) rfl ?_
  refine g_aloadN C d6_256 (pc' := 257) rfl rfl rfl ?_
  refine g_getF (host := "") C (Or.inl (hw _ (List.mem_of_getElem? (i := 24) rfl))) Via.refl F2 d6_257 (pc' := 260) rfl ?_
  refine g_isub C d6_260 (pc' := 261) rfl ?_
  refine g_i2l C d6_261 (pc' := 262) rfl ?_
  refine g_lcmp C d6_262 (pc' := 263) rfl ?_
  refine g_if_le C d6_263 (by decide) (pc' := 280) (by decide) (pcN := 266) rfl (fun _ => ?_) (fun q => absurd q h9)
  refine g_lload C d6_280 (pc' := 282) rfl rfl ?_
  refine g_l2i C d6_282 (pc' := 283) rfl ?_
  exact g_retI C rfl d6_283 ⟨by rw [hL], K, ⟨E, F1, F2, F3⟩⟩ (by decide) (by decide)
def R_m_min : Room := ({ frames := 0, cells := 0, slots := 0, locals := 0 } : Room)
set_option maxRecDepth 65536 in
set_option maxHeartbeats 40000000 in
theorem m_min {l : Launch} {Z : State} {a0 : Array Value} (hw : ∀ d ∈ tables_1, d.before a0 Z = true) {h0 : Heap} {n0 : Nat} (x y : Int32)  :
    Met l Z (⟨"java/lang/Math", "min", "(II)I"⟩ : MethodName) jdk_29_method_69_code 2 (some .int) R_m_min n0 h0 #[(.int x), (.int y)] (fun r h => r = some (.int (own_min x y)) ∧ h0 = h) := by
  refine Met.intro (Jvm.Free.JP.mathPlain rfl (by decide +kernel)) (fun mM => (show entryFrame mM #[(.int x), (.int y)] 2 = mkF mM 0 #[.val (.int x), .val (.int y)] [] from by first | rfl | (simp [entryFrame, mkF, argsToLocals, Value.category]; done))) (fun w Y C => ?_)
  refine g_iloadN C d15_0 (pc' := 1) rfl rfl ?_
  refine g_iloadN C d15_1 (pc' := 2) rfl rfl ?_
  refine g_icmp_gt C d15_2 (by decide) (pc' := 9) (by decide) (pcN := 5) rfl (fun q2 => ?_) (fun q2 => ?_)
  · refine g_iloadN C d15_9 (pc' := 10) rfl rfl ?_
    exact g_retI C rfl d15_10 ⟨by rw [own_min, if_pos q2], rfl⟩ (by decide) (by decide)
  · refine g_iloadN C d15_5 (pc' := 6) rfl rfl ?_
    refine g_goto C d15_6 (by decide) (pc' := 10) (by decide) ?_
    exact g_retI C rfl d15_10 ⟨by rw [own_min, if_neg q2], rfl⟩ (by decide) (by decide)
def R_m_check : Room := ({ frames := 0, cells := 0, slots := 0, locals := 0 } : Room)
set_option maxRecDepth 65536 in
set_option maxHeartbeats 40000000 in
theorem m_check {l : Launch} {Z : State} {a0 : Array Value} (hw : ∀ d ∈ tables_1, d.before a0 Z = true) {h0 : Heap} {n0 : Nat} (p q : Int32) (hq : ¬ q < p) :
    Met l Z (⟨"java/util/Arrays", "checkLength", "(II)V"⟩ : MethodName) jdk_65_method_131_code 2 none R_m_check n0 h0 #[(.int p), (.int q)] (fun r h => r = none ∧ h0 = h) := by
  refine Met.intro (plainFor_of_name (by first | (simp [plainName, overriddenIn, x]; done) | decide +kernel)) (fun mM => (show entryFrame mM #[(.int p), (.int q)] 2 = mkF mM 0 #[.val (.int p), .val (.int q)] [] from by first | rfl | (simp [entryFrame, mkF, argsToLocals, Value.category]; done))) (fun w Y C => ?_)
  refine g_iloadN C d14_0 (pc' := 1) rfl rfl ?_
  refine g_iloadN C d14_1 (pc' := 2) rfl rfl ?_
  refine g_icmp_ge C d14_2 (by decide) (pc' := 37) (by decide) (pcN := 5) rfl (fun _ => ?_) (fun q => absurd q hq)
  exact g_ret C rfl d14_37 ⟨rfl, rfl⟩ (by decide) (by decide)
def R_m_copyB : Room := ({ frames := 1, cells := 1, slots := 3, locals := 18 } : Room)
set_option maxRecDepth 65536 in
set_option maxHeartbeats 40000000 in
theorem m_copyB {l : Launch} {Z : State} {a0 : Array Value} (hw : ∀ d ∈ tables_1, d.before a0 Z = true) {h0 : Heap} {n0 : Nat} (t : Addr) (p q z d m : Int32) (f : Nat → Value) (A : Arf Z h0 t "[B" .byte z f) (hq : ¬ q < p) (hd : q - p = d) (hn : ¬ d < 0) (hc : d.toNatClampNeg ≤ 3) (hm : own_min (z - p) d = m) (k1 : ¬ p < 0) (k3 : ¬ m < 0) (k4 : p.toNatClampNeg + m.toNatClampNeg ≤ z.toNatClampNeg) (k5 : 0 + m.toNatClampNeg ≤ d.toNatClampNeg) :
    Met l Z (⟨"java/util/Arrays", "copyOfRangeByte", "([BII)[B"⟩ : MethodName) jdk_65_method_133_code 5 (some (.array .byte)) R_m_copyB n0 h0 #[(.ref t), (.int p), (.int q)] (fun r h => ∃ (b : Addr) (g : Nat → Value), r = some (.ref b) ∧ h0.size ≤ b ∧ n0 ≤ b ∧ Keep h0 h [] ∧ Arf Z h b "[B" .byte d g) := by
  refine Met.intro (plainFor_of_name (by first | (simp [plainName, overriddenIn, x]; done) | decide +kernel)) (fun mM => (show entryFrame mM #[(.ref t), (.int p), (.int q)] 5 = mkF mM 0 #[.val (.ref t), .val (.int p), .val (.int q), .unset, .unset] [] from by first | rfl | (simp [entryFrame, mkF, argsToLocals, Value.category]; done))) (fun w Y C => ?_)
  have K := Keep.refl h0 []
  refine g_iloadN C d13_0 (pc' := 1) rfl rfl ?_
  refine g_iloadN C d13_1 (pc' := 2) rfl rfl ?_
  refine g_static (rm := R_m_check) C (y := (⟨"java/util/Arrays", "checkLength", "(II)V"⟩ : MethodName)) (hw _ (List.mem_of_getElem? (i := 79) rfl)) (hw _ (List.mem_of_getElem? (i := 80) rfl)) (hw _ (List.mem_of_getElem? (i := 74) rfl)) (hw _ (List.mem_of_getElem? (i := 81) rfl)) (by decide) d13_2 (pc' := 5) rfl (argsL := [(.int p), (.int q)]) (rest := []) (lenOf pd_3 rfl) rfl (W := 0) (Nat.le_of_eq rfl) rfl (fun hn9 => Met.back (rm := R_m_check) (m_check hw p q hq) hn9 C.hZ (hw _ (List.mem_of_getElem? (i := 81) rfl)) (hw _ (List.mem_of_getElem? (i := 74) rfl)) (by decide) (by decide)) (k' := 0) (n' := 0) rfl rfl (by decide) (by decide) ?_
  rintro _ _ ⟨rfl, rfl⟩
  show Go w l _ n0 _ h0 0 0 5 #[.val (.ref t), .val (.int p), .val (.int q), .unset, .unset] []
  refine g_iloadN C d13_5 (pc' := 6) rfl rfl ?_
  refine g_iloadN C d13_6 (pc' := 7) rfl rfl ?_
  refine g_isub C d13_7 (pc' := 8) rfl ?_
  refine g_istoreN C d13_8 (pc' := 9) rfl (Ls' := #[.val (.ref t), .val (.int p), .val (.int q), .val (.int (q - p)), .unset]) rfl ?_
  rw [hd]
  refine g_iloadN C d13_9 (pc' := 10) rfl rfl ?_
  refine g_newarr C (ad := "[B") (cap := 3) (hw _ (List.mem_of_getElem? (i := 3) rfl)) d13_10 (pc' := 12) rfl rfl hn hc (by decide) (k' := 1) (n' := 3) rfl rfl (by decide) (by decide) rfl ?_
  intro h53 b53 E53 fb53 gb53 A53
  have ne_t_b53 : t ≠ b53 := Nat.ne_of_lt (Nat.lt_of_lt_of_le A.lt fb53)
  have sz_b53 : h0.size ≤ b53 := Nat.le_trans K.1 fb53
  have A := A.ext E53
  have K := K.ext E53
  have A53 : Arf Z h53 b53 "[B" .byte d (fun _ => (.int 0)) := A53
  refine g_astore C d13_12 (pc' := 14) rfl rfl (Ls' := #[.val (.ref t), .val (.int p), .val (.int q), .val (.int d), .val (.ref b53)]) rfl ?_
  refine g_aloadN C d13_14 (pc' := 15) rfl rfl rfl ?_
  refine g_iloadN C d13_15 (pc' := 16) rfl rfl ?_
  refine g_aload C d13_16 (pc' := 18) rfl rfl rfl ?_
  refine g_iconst C (z := (0 : Int32)) d13_18 (pc' := 19) rfl rfl ?_
  refine g_aloadN C d13_19 (pc' := 20) rfl rfl rfl ?_
  refine g_len C A d13_20 (pc' := 21) rfl ?_
  refine g_iloadN C d13_21 (pc' := 22) rfl rfl ?_
  refine g_isub C d13_22 (pc' := 23) rfl ?_
  refine g_iloadN C d13_23 (pc' := 24) rfl rfl ?_
  refine g_static (rm := R_m_min) C (y := (⟨"java/lang/Math", "min", "(II)I"⟩ : MethodName)) (hw _ (List.mem_of_getElem? (i := 82) rfl)) (hw _ (List.mem_of_getElem? (i := 83) rfl)) (hw _ (List.mem_of_getElem? (i := 84) rfl)) (hw _ (List.mem_of_getElem? (i := 85) rfl)) (by decide) d13_24 (pc' := 27) rfl (argsL := [(.int (z - p)), (.int d)]) (rest := [(.int (0 : Int32)), (.ref b53), (.int p), (.ref t)]) (lenOf pd_4 rfl) rfl (W := 4) (Nat.le_of_eq rfl) rfl (fun hn9 => Met.back (rm := R_m_min) (m_min hw (z - p) d) hn9 C.hZ (hw _ (List.mem_of_getElem? (i := 85) rfl)) (hw _ (List.mem_of_getElem? (i := 84) rfl)) (by decide) (by decide)) (k' := 1) (n' := 3) rfl rfl (by decide) (by decide) ?_
  rintro _ _ ⟨rfl, rfl⟩
  show Go w l _ n0 _ h53 1 3 27 #[.val (.ref t), .val (.int p), .val (.int q), .val (.int d), .val (.ref b53)] [(.int (own_min (z - p) d)), (.int (0 : Int32)), (.ref b53), (.int p), (.ref t)]
  rw [hm]
  refine g_acopy C (W := 0) (hw _ (List.mem_of_getElem? (i := 86) rfl)) (hw _ (List.mem_of_getElem? (i := 89) rfl)) (hw _ (List.mem_of_getElem? (i := 87) rfl)) (hw _ (List.mem_of_getElem? (i := 88) rfl)) A A53 rfl k1 (by decide) k3 k4 k5 gb53 d13_27 (pc' := 30) rfl rfl (by decide) (Nat.le_of_eq rfl) (by decide) (fun h54 K55 A53' => ?_)
  have A := A.keep K55 (ninS ne_t_b53 nin0)
  have K := K.trans K55 (allS (Or.inr sz_b53) all0)
  have A53 : Arf Z h54 b53 "[B" .byte d (fun i => if 0 ≤ i ∧ i < 0 + m.toNatClampNeg then f (p.toNatClampNeg + (i - 0)) else (fun _ => (.int 0)) i) := A53'
  refine g_aload C d13_30 (pc' := 32) rfl rfl rfl ?_
  exact g_retA C rfl (t := (.array .byte)) rfl rfl d13_32 ⟨b53, _, rfl, sz_b53, gb53, K, A53⟩ (by decide) (by decide)
def R_m_copy : Room := ({ frames := 2, cells := 1, slots := 3, locals := 34 } : Room)
set_option maxRecDepth 65536 in
set_option maxHeartbeats 40000000 in
theorem m_copy {l : Launch} {Z : State} {a0 : Array Value} (hw : ∀ d ∈ tables_1, d.before a0 Z = true) {h0 : Heap} {n0 : Nat} (t : Addr) (p q z d m : Int32) (f : Nat → Value) (A : Arf Z h0 t "[B" .byte z f) (hq : ¬ q < p) (hd : q - p = d) (hn : ¬ d < 0) (hc : d.toNatClampNeg ≤ 3) (hm : own_min (z - p) d = m) (k1 : ¬ p < 0) (k3 : ¬ m < 0) (k4 : p.toNatClampNeg + m.toNatClampNeg ≤ z.toNatClampNeg) (k5 : 0 + m.toNatClampNeg ≤ d.toNatClampNeg) (hp0 : ¬ p = 0) :
    Met l Z (⟨"java/util/Arrays", "copyOfRange", "([BII)[B"⟩ : MethodName) jdk_65_method_132_code 3 (some (.array .byte)) R_m_copy n0 h0 #[(.ref t), (.int p), (.int q)] (fun r h => ∃ (b : Addr) (g : Nat → Value), r = some (.ref b) ∧ h0.size ≤ b ∧ n0 ≤ b ∧ Keep h0 h [] ∧ Arf Z h b "[B" .byte d g) := by
  refine Met.intro (plainFor_of_name (by first | (simp [plainName, overriddenIn, x]; done) | decide +kernel)) (fun mM => (show entryFrame mM #[(.ref t), (.int p), (.int q)] 3 = mkF mM 0 #[.val (.ref t), .val (.int p), .val (.int q)] [] from by first | rfl | (simp [entryFrame, mkF, argsToLocals, Value.category]; done))) (fun w Y C => ?_)
  have K := Keep.refl h0 []
  refine g_iloadN C d12_0 (pc' := 1) rfl rfl ?_
  refine g_if_ne C d12_1 (by decide) (pc' := 10) (by decide) (pcN := 4) rfl (fun _ => ?_) (fun q => absurd q hp0)
  refine g_aloadN C d12_10 (pc' := 11) rfl rfl rfl ?_
  refine g_iloadN C d12_11 (pc' := 12) rfl rfl ?_
  refine g_iloadN C d12_12 (pc' := 13) rfl rfl ?_
  refine g_static (rm := R_m_copyB) C (y := (⟨"java/util/Arrays", "copyOfRangeByte", "([BII)[B"⟩ : MethodName)) (hw _ (List.mem_of_getElem? (i := 76) rfl)) (hw _ (List.mem_of_getElem? (i := 77) rfl)) (hw _ (List.mem_of_getElem? (i := 74) rfl)) (hw _ (List.mem_of_getElem? (i := 78) rfl)) (by decide) d12_13 (pc' := 16) rfl (argsL := [(.ref t), (.int p), (.int q)]) (rest := []) (lenOf pd_5 rfl) rfl (W := 0) (Nat.le_of_eq rfl) rfl (fun hn9 => Met.back (rm := R_m_copyB) (m_copyB hw t p q z d m f A hq hd hn hc hm k1 k3 k4 k5) hn9 C.hZ (hw _ (List.mem_of_getElem? (i := 78) rfl)) (hw _ (List.mem_of_getElem? (i := 74) rfl)) (by decide) (by decide)) (k' := 1) (n' := 3) rfl rfl (by decide) (by decide) ?_
  rintro _ h56 ⟨cb, cg, rfl, fcb, gcb, Kc, Ac⟩
  have ne_t_cb : t ≠ cb := Nat.ne_of_lt (Nat.lt_of_lt_of_le A.lt fcb)
  have sz_cb : h0.size ≤ cb := Nat.le_trans K.1 fcb
  have A := A.keep Kc nin0
  have K := K.trans Kc (by intro x hx; simp at hx)
  show Go w l _ n0 _ h56 1 3 16 #[.val (.ref t), .val (.int p), .val (.int q)] [(.ref cb)]
  exact g_retA C rfl (t := (.array .byte)) rfl rfl d12_16 ⟨cb, cg, rfl, sz_cb, gcb, K, Ac⟩ (by decide) (by decide)
def R_m_contents : Room := ({ frames := 3, cells := 1, slots := 3, locals := 48 } : Room)
set_option maxRecDepth 65536 in
set_option maxHeartbeats 40000000 in
theorem m_contents {l : Launch} {Z : State} {a0 : Array Value} (hw : ∀ d ∈ tables_1, d.before a0 Z = true) {h0 : Heap} {n0 : Nat} (a t g : Addr) (p e z T B L i p2 : Int32) (f : Nat → Value) (M : Rdr Z h0 a (.ref t) p e) (A : Arf Z h0 t "[B" .byte z f) (Eg : Exa Z h0 g "com/example/sigillum/sigillum/codec/DerTag") (Fg : Fld Z h0 g "com/example/sigillum/sigillum/codec/DerTag" "identifier" "I" (.int i)) (ga : n0 ≤ a) (ne_t_a : t ≠ a) (h1 : ¬ p < 0) (h2 : p < e) (h3 : p < z) (v1 : f p.toNatClampNeg = .int T) (h4 : T &&& 255 = i) (h5 : p + 1 < e) (h6 : ¬ p + 1 < 0) (h7 : p + 1 < z) (v2 : f (p + 1).toNatClampNeg = .int B) (h8 : B &&& 255 < 128) (h9 : ¬ 0 < lcmpW (B &&& 255).toInt64 (e - (p + 1 + 1)).toInt64) (hL : (B &&& 255).toInt64.toInt32 = L) (hp2 : p + 1 + 1 = p2) (p3 m : Int32) (hp3 : p2 + L = p3) (hp0 : ¬ p2 = 0) (hq : ¬ p3 < p2) (hd : p3 - p2 = L) (hn : ¬ L < 0) (hc : L.toNatClampNeg ≤ 3) (hm : own_min (z - p2) L = m) (k1 : ¬ p2 < 0) (k3 : ¬ m < 0) (k4 : p2.toNatClampNeg + m.toNatClampNeg ≤ z.toNatClampNeg) (k5 : 0 + m.toNatClampNeg ≤ L.toNatClampNeg) :
    Met l Z (⟨"com/example/sigillum/sigillum/codec/DerReader", "contents", "(Lcom/example/sigillum/sigillum/codec/DerTag;)[B"⟩ : MethodName) prog_79_method_13_code 4 (some (.array .byte)) R_m_contents n0 h0 #[(.ref a), (.ref g)] (fun r h => ∃ (b : Addr) (g : Nat → Value), r = some (.ref b) ∧ h0.size ≤ b ∧ n0 ≤ b ∧ Keep h0 h [a] ∧ Rdr Z h a (.ref t) p3 e ∧ Arf Z h b "[B" .byte L g) := by
  refine Met.intro (plainFor_of_name (by first | (simp [plainName, overriddenIn, x]; done) | decide +kernel)) (fun mM => (show entryFrame mM #[(.ref a), (.ref g)] 4 = mkF mM 0 #[.val (.ref a), .val (.ref g), .unset, .unset] [] from by first | rfl | (simp [entryFrame, mkF, argsToLocals, Value.category]; done))) (fun w Y C => ?_)
  have K := Keep.refl h0 [a]
  obtain ⟨E, F1, F2, F3⟩ := M
  refine g_aloadN C d11_0 (pc' := 1) rfl rfl rfl ?_
  refine g_aloadN C d11_1 (pc' := 2) rfl rfl rfl ?_
  refine g_private (rm := R_m_header) (a := a) C (y := (⟨"com/example/sigillum/sigillum/codec/DerReader", "header", "(Lcom/example/sigillum/sigillum/codec/DerTag;)I"⟩ : MethodName)) (hw _ (List.mem_of_getElem? (i := 41) rfl)) (hw _ (List.mem_of_getElem? (i := 42) rfl)) (g_selPriv C (yo := (⟨"com/example/sigillum/sigillum/codec/DerReader", "hasMore", "()Z"⟩ : MethodName)) rfl (hw _ (List.mem_of_getElem? (i := 31) rfl)) (hw _ (List.mem_of_getElem? (i := 42) rfl)) (hw _ (List.mem_of_getElem? (i := 43) rfl)) (by decide)) (hw _ (List.mem_of_getElem? (i := 43) rfl)) (hw _ (List.mem_of_getElem? (i := 44) rfl)) (by decide) E d11_2 (pc' := 5) rfl (argsL := [(.ref g)]) (rest := []) (lenOf pd_6 rfl) rfl (W := 0) (Nat.le_of_eq rfl) rfl (fun hn9 => Met.back (rm := R_m_header) (m_header hw a t g p e z T B L i p2 f ⟨E, F1, F2, F3⟩ A Eg Fg ga ne_t_a h1 h2 h3 v1 h4 h5 h6 h7 v2 h8 h9 hL hp2) hn9 C.hZ (hw _ (List.mem_of_getElem? (i := 44) rfl)) (hw _ (List.mem_of_getElem? (i := 2) rfl)) (by decide) (by decide)) (k' := 0) (n' := 0) rfl rfl (by decide) (by decide) ?_
  rintro _ h57 ⟨rfl, Kh, ⟨E_h, F1_h, F2_h, F3_h⟩⟩
  have A := A.keep Kh (ninS ne_t_a nin0)
  have Eg := Eg.keep Kh
  have K := K.trans Kh (allS (Or.inl (by simp)) all0)
  show Go w l _ n0 _ h57 0 0 5 #[.val (.ref a), .val (.ref g), .unset, .unset] [(.int L)]
  refine g_istoreN C d11_5 (pc' := 6) rfl (Ls' := #[.val (.ref a), .val (.ref g), .val (.int L), .unset]) rfl ?_
  refine g_aloadN C d11_6 (pc' := 7) rfl rfl rfl ?_
  refine g_getF (host := "") C (Or.inl (hw _ (List.mem_of_getElem? (i := 22) rfl))) Via.refl F1_h d11_7 (pc' := 10) rfl ?_
  refine g_aloadN C d11_10 (pc' := 11) rfl rfl rfl ?_
  refine g_getF (host := "") C (Or.inl (hw _ (List.mem_of_getElem? (i := 24) rfl))) Via.refl F2_h d11_11 (pc' := 14) rfl ?_
  refine g_aloadN C d11_14 (pc' := 15) rfl rfl rfl ?_
  refine g_getF (host := "") C (Or.inl (hw _ (List.mem_of_getElem? (i := 24) rfl))) Via.refl F2_h d11_15 (pc' := 18) rfl ?_
  refine g_iloadN C d11_18 (pc' := 19) rfl rfl ?_
  refine g_iadd C d11_19 (pc' := 20) rfl ?_
  rw [hp3]
  refine g_static (rm := R_m_copy) C (y := (⟨"java/util/Arrays", "copyOfRange", "([BII)[B"⟩ : MethodName)) (hw _ (List.mem_of_getElem? (i := 72) rfl)) (hw _ (List.mem_of_getElem? (i := 73) rfl)) (hw _ (List.mem_of_getElem? (i := 74) rfl)) (hw _ (List.mem_of_getElem? (i := 75) rfl)) (by decide) d11_20 (pc' := 23) rfl (argsL := [(.ref t), (.int p2), (.int p3)]) (rest := []) (lenOf pd_5 rfl) rfl (W := 0) (Nat.le_of_eq rfl) rfl (fun hn9 => Met.back (rm := R_m_copy) (m_copy hw t p2 p3 z L m f A hq hd hn hc hm k1 k3 k4 k5 hp0) hn9 C.hZ (hw _ (List.mem_of_getElem? (i := 75) rfl)) (hw _ (List.mem_of_getElem? (i := 74) rfl)) (by decide) (by decide)) (k' := 1) (n' := 3) rfl rfl (by decide) (by decide) ?_
  rintro _ h58 ⟨cb, cg, rfl, fcb, gcb, Kc, Ac⟩
  have ne_t_cb : t ≠ cb := Nat.ne_of_lt (Nat.lt_of_lt_of_le A.lt fcb)
  have ne_g_cb : g ≠ cb := Nat.ne_of_lt (Nat.lt_of_lt_of_le Eg.lt fcb)
  have ne_a_cb : a ≠ cb := Nat.ne_of_lt (Nat.lt_of_lt_of_le E_h.lt fcb)
  have sz_cb : h0.size ≤ cb := Nat.le_trans K.1 fcb
  have A := A.keep Kc nin0
  have Eg := Eg.keep Kc
  have K := K.trans Kc (by intro x hx; simp at hx)
  have E_h := E_h.keep Kc
  have F1_h := F1_h.keep Kc nin0
  have F2_h := F2_h.keep Kc nin0
  have F3_h := F3_h.keep Kc nin0
  show Go w l _ n0 _ h58 1 3 23 #[.val (.ref a), .val (.ref g), .val (.int L), .unset] [(.ref cb)]
  refine g_astoreN C d11_23 (pc' := 24) rfl rfl (Ls' := #[.val (.ref a), .val (.ref g), .val (.int L), .val (.ref cb)]) rfl ?_
  refine g_aloadN C d11_24 (pc' := 25) rfl rfl rfl ?_
  refine g_dup C d11_25 (pc' := 26) rfl rfl ?_
  refine g_getF (host := "") C (Or.inl (hw _ (List.mem_of_getElem? (i := 24) rfl))) Via.refl F2_h d11_26 (pc' := 29) rfl ?_
  refine g_iloadN C d11_29 (pc' := 30) rfl rfl ?_
  refine g_iadd C d11_30 (pc' := 31) rfl ?_
  rw [hp3]
  refine g_putF (host := "") C (Or.inl (hw _ (List.mem_of_getElem? (i := 24) rfl))) Via.refl F2_h E_h (Or.inl (hw _ (List.mem_of_getElem? (i := 25) rfl))) (hw _ (List.mem_of_getElem? (i := 1) rfl)) (ty := .int) (by decide) rfl rfl d11_31 (pc' := 34) rfl ga (fun h59 W60 => ?_)
  have F2_h := F2_h.same W60
  have A := A.other W60 ne_t_a
  have Eg := Eg.wr W60
  have K := K.wr W60 (Or.inl (by simp))
  have E_h := E_h.wr W60
  have F1_h := F1_h.other W60 (Or.inr (slot_ne (Or.inr (hw _ (List.mem_of_getElem? (i := 23) rfl)) : Laid Z a0 "com/example/sigillum/sigillum/codec/DerReader" "com/example/sigillum/sigillum/codec/DerReader" "der" "[B") (Or.inl (hw _ (List.mem_of_getElem? (i := 25) rfl)) : Laid Z a0 "com/example/sigillum/sigillum/codec/DerReader" "com/example/sigillum/sigillum/codec/DerReader" "position" "I") (by decide) (t := (.array .byte)) (t' := .int) (by decide) (by decide)))
  have F3_h := F3_h.other W60 (Or.inr (slot_ne (Or.inr (hw _ (List.mem_of_getElem? (i := 27) rfl)) : Laid Z a0 "com/example/sigillum/sigillum/codec/DerReader" "com/example/sigillum/sigillum/codec/DerReader" "end" "I") (Or.inl (hw _ (List.mem_of_getElem? (i := 25) rfl)) : Laid Z a0 "com/example/sigillum/sigillum/codec/DerReader" "com/example/sigillum/sigillum/codec/DerReader" "position" "I") (by decide) (t := .int) (t' := .int) (by decide) (by decide)))
  have Ac := Ac.other W60 (Ne.symm ne_a_cb)
  refine g_aloadN C d11_34 (pc' := 35) rfl rfl rfl ?_
  exact g_retA C rfl (t := (.array .byte)) rfl rfl d11_35 ⟨cb, cg, rfl, sz_cb, gcb, K, ⟨E_h, F1_h, F2_h, F3_h⟩, Ac⟩ (by decide) (by decide)
def R_m_octets : Room := ({ frames := 4, cells := 1, slots := 3, locals := 63 } : Room)
set_option maxRecDepth 65536 in
set_option maxHeartbeats 40000000 in
theorem m_octets {l : Launch} {Z : State} {a0 : Array Value} (hw : ∀ d ∈ tables_1, d.before a0 Z = true) {h0 : Heap} {n0 : Nat} (a t g : Addr) (p e z T B L i p2 : Int32) (f : Nat → Value) (M : Rdr Z h0 a (.ref t) p e) (A : Arf Z h0 t "[B" .byte z f) (Eg : Exa Z h0 g "com/example/sigillum/sigillum/codec/DerTag") (Fg : Fld Z h0 g "com/example/sigillum/sigillum/codec/DerTag" "identifier" "I" (.int i)) (ga : n0 ≤ a) (ne_t_a : t ≠ a) (h1 : ¬ p < 0) (h2 : p < e) (h3 : p < z) (v1 : f p.toNatClampNeg = .int T) (h4 : T &&& 255 = i) (h5 : p + 1 < e) (h6 : ¬ p + 1 < 0) (h7 : p + 1 < z) (v2 : f (p + 1).toNatClampNeg = .int B) (h8 : B &&& 255 < 128) (h9 : ¬ 0 < lcmpW (B &&& 255).toInt64 (e - (p + 1 + 1)).toInt64) (hL : (B &&& 255).toInt64.toInt32 = L) (hp2 : p + 1 + 1 = p2) (p3 m : Int32) (hp3 : p2 + L = p3) (hp0 : ¬ p2 = 0) (hq : ¬ p3 < p2) (hd : p3 - p2 = L) (hn : ¬ L < 0) (hc : L.toNatClampNeg ≤ 3) (hm : own_min (z - p2) L = m) (k1 : ¬ p2 < 0) (k3 : ¬ m < 0) (k4 : p2.toNatClampNeg + m.toNatClampNeg ≤ z.toNatClampNeg) (k5 : 0 + m.toNatClampNeg ≤ L.toNatClampNeg) (S : Sta Z h0 "com/example/sigillum/sigillum/codec/DerTag" "OCTET_STRING" "Lcom/example/sigillum/sigillum/codec/DerTag;" (.ref g)) :
    Met l Z (⟨"com/example/sigillum/sigillum/codec/DerReader", "octetString", "()[B"⟩ : MethodName) prog_79_method_11_code 1 (some (.array .byte)) R_m_octets n0 h0 #[(.ref a)] (fun r h => (∃ b : Addr, r = some (.ref b)) ∧ Keep h0 h [a] ∧ Rdr Z h a (.ref t) p3 e) := by
  refine Met.intro (plainFor_of_name (by first | (simp [plainName, overriddenIn, x]; done) | decide +kernel)) (fun mM => (show entryFrame mM #[(.ref a)] 1 = mkF mM 0 #[.val (.ref a)] [] from by first | rfl | (simp [entryFrame, mkF, argsToLocals, Value.category]; done))) (fun w Y C => ?_)
  have K := Keep.refl h0 [a]
  obtain ⟨E, F1, F2, F3⟩ := M
  refine g_aloadN C d16_0 (pc' := 1) rfl rfl rfl ?_
  refine g_getS (host := "") C (Or.inl (hw _ (List.mem_of_getElem? (i := 95) rfl))) Via.refl S d16_1 (pc' := 4) rfl ?_
  refine g_private (rm := R_m_contents) (a := a) C (y := (⟨"com/example/sigillum/sigillum/codec/DerReader", "contents", "(Lcom/example/sigillum/sigillum/codec/DerTag;)[B"⟩ : MethodName)) (hw _ (List.mem_of_getElem? (i := 68) rfl)) (hw _ (List.mem_of_getElem? (i := 69) rfl)) (g_selPriv C (yo := (⟨"com/example/sigillum/sigillum/codec/DerReader", "hasMore", "()Z"⟩ : MethodName)) rfl (hw _ (List.mem_of_getElem? (i := 31) rfl)) (hw _ (List.mem_of_getElem? (i := 69) rfl)) (hw _ (List.mem_of_getElem? (i := 70) rfl)) (by decide)) (hw _ (List.mem_of_getElem? (i := 70) rfl)) (hw _ (List.mem_of_getElem? (i := 71) rfl)) (by decide) E d16_4 (pc' := 7) rfl (argsL := [(.ref g)]) (rest := []) (lenOf pd_7 rfl) rfl (W := 0) (Nat.le_of_eq rfl) rfl (fun hn9 => Met.back (rm := R_m_contents) (m_contents hw a t g p e z T B L i p2 f ⟨E, F1, F2, F3⟩ A Eg Fg ga ne_t_a h1 h2 h3 v1 h4 h5 h6 h7 v2 h8 h9 hL hp2 p3 m hp3 hp0 hq hd hn hc hm k1 k3 k4 k5) hn9 C.hZ (hw _ (List.mem_of_getElem? (i := 71) rfl)) (hw _ (List.mem_of_getElem? (i := 2) rfl)) (by decide) (by decide)) (k' := 1) (n' := 3) rfl rfl (by decide) (by decide) ?_
  rintro _ h61 ⟨cb, cg, rfl, fcb, gcb, Kc, ⟨E_c, F1_c, F2_c, F3_c⟩, Ac⟩
  have ne_t_cb : t ≠ cb := Nat.ne_of_lt (Nat.lt_of_lt_of_le A.lt fcb)
  have ne_g_cb : g ≠ cb := Nat.ne_of_lt (Nat.lt_of_lt_of_le Eg.lt fcb)
  have sz_cb : h0.size ≤ cb := Nat.le_trans K.1 fcb
  have A := A.keep Kc (ninS ne_t_a nin0)
  have Eg := Eg.keep Kc
  have K := K.trans Kc (allS (Or.inl (by simp)) all0)
  show Go w l _ n0 _ h61 1 3 7 #[.val (.ref a)] [(.ref cb)]
  exact g_retA C rfl (t := (.array .byte)) rfl rfl d16_7 ⟨⟨cb, rfl⟩, K, ⟨E_c, F1_c, F2_c, F3_c⟩⟩ (by decide) (by decide)
def R_m_null : Room := ({ frames := 4, cells := 1, slots := 3, locals := 63 } : Room)
set_option maxRecDepth 65536 in
set_option maxHeartbeats 40000000 in
theorem m_null {l : Launch} {Z : State} {a0 : Array Value} (hw : ∀ d ∈ tables_1, d.before a0 Z = true) {h0 : Heap} {n0 : Nat} (a t g : Addr) (p e z T B L i p2 : Int32) (f : Nat → Value) (M : Rdr Z h0 a (.ref t) p e) (A : Arf Z h0 t "[B" .byte z f) (Eg : Exa Z h0 g "com/example/sigillum/sigillum/codec/DerTag") (Fg : Fld Z h0 g "com/example/sigillum/sigillum/codec/DerTag" "identifier" "I" (.int i)) (ga : n0 ≤ a) (ne_t_a : t ≠ a) (h1 : ¬ p < 0) (h2 : p < e) (h3 : p < z) (v1 : f p.toNatClampNeg = .int T) (h4 : T &&& 255 = i) (h5 : p + 1 < e) (h6 : ¬ p + 1 < 0) (h7 : p + 1 < z) (v2 : f (p + 1).toNatClampNeg = .int B) (h8 : B &&& 255 < 128) (h9 : ¬ 0 < lcmpW (B &&& 255).toInt64 (e - (p + 1 + 1)).toInt64) (hL : (B &&& 255).toInt64.toInt32 = L) (hp2 : p + 1 + 1 = p2) (p3 m : Int32) (hp3 : p2 + L = p3) (hp0 : ¬ p2 = 0) (hq : ¬ p3 < p2) (hd : p3 - p2 = L) (hn : ¬ L < 0) (hc : L.toNatClampNeg ≤ 3) (hm : own_min (z - p2) L = m) (k1 : ¬ p2 < 0) (k3 : ¬ m < 0) (k4 : p2.toNatClampNeg + m.toNatClampNeg ≤ z.toNatClampNeg) (k5 : 0 + m.toNatClampNeg ≤ L.toNatClampNeg) (hL0 : L = 0) (S : Sta Z h0 "com/example/sigillum/sigillum/codec/DerTag" "NULL" "Lcom/example/sigillum/sigillum/codec/DerTag;" (.ref g)) :
    Met l Z (⟨"com/example/sigillum/sigillum/codec/DerReader", "nullValue", "()V"⟩ : MethodName) prog_79_method_8_code 2 none R_m_null n0 h0 #[(.ref a)] (fun r h => r = none ∧ Keep h0 h [a] ∧ Rdr Z h a (.ref t) p3 e) := by
  refine Met.intro (plainFor_of_name (by first | (simp [plainName, overriddenIn, x]; done) | decide +kernel)) (fun mM => (show entryFrame mM #[(.ref a)] 2 = mkF mM 0 #[.val (.ref a), .unset] [] from by first | rfl | (simp [entryFrame, mkF, argsToLocals, Value.category]; done))) (fun w Y C => ?_)
  have K := Keep.refl h0 [a]
  obtain ⟨E, F1, F2, F3⟩ := M
  refine g_aloadN C d10_0 (pc' := 1) rfl rfl rfl ?_
  refine g_getF (host := "") C (Or.inl (hw _ (List.mem_of_getElem? (i := 24) rfl))) Via.refl F2 d10_1 (pc' := 4) rfl ?_
  refine g_istoreN C d10_4 (pc' := 5) rfl (Ls' := #[.val (.ref a), .val (.int p)]) rfl ?_
  refine g_aloadN C d10_5 (pc' := 6) rfl rfl rfl ?_
  refine g_getS (host := "") C (Or.inl (hw _ (List.mem_of_getElem? (i := 66) rfl))) Via.refl S d10_6 (pc' := 9) rfl ?_
  refine g_private (rm := R_m_contents) (a := a) C (y := (⟨"com/example/sigillum/sigillum/codec/DerReader", "contents", "(Lcom/example/sigillum/sigillum/codec/DerTag;)[B"⟩ : MethodName)) (hw _ (List.mem_of_getElem? (i := 68) rfl)) (hw _ (List.mem_of_getElem? (i := 69) rfl)) (g_selPriv C (yo := (⟨"com/example/sigillum/sigillum/codec/DerReader", "hasMore", "()Z"⟩ : MethodName)) rfl (hw _ (List.mem_of_getElem? (i := 31) rfl)) (hw _ (List.mem_of_getElem? (i := 69) rfl)) (hw _ (List.mem_of_getElem? (i := 70) rfl)) (by decide)) (hw _ (List.mem_of_getElem? (i := 70) rfl)) (hw _ (List.mem_of_getElem? (i := 71) rfl)) (by decide) E d10_9 (pc' := 12) rfl (argsL := [(.ref g)]) (rest := []) (lenOf pd_7 rfl) rfl (W := 0) (Nat.le_of_eq rfl) rfl (fun hn9 => Met.back (rm := R_m_contents) (m_contents hw a t g p e z T B L i p2 f ⟨E, F1, F2, F3⟩ A Eg Fg ga ne_t_a h1 h2 h3 v1 h4 h5 h6 h7 v2 h8 h9 hL hp2 p3 m hp3 hp0 hq hd hn hc hm k1 k3 k4 k5) hn9 C.hZ (hw _ (List.mem_of_getElem? (i := 71) rfl)) (hw _ (List.mem_of_getElem? (i := 2) rfl)) (by decide) (by decide)) (k' := 1) (n' := 3) rfl rfl (by decide) (by decide) ?_
  rintro _ h62 ⟨cb, cg, rfl, fcb, gcb, Kc, ⟨E_c, F1_c, F2_c, F3_c⟩, Ac⟩
  have ne_t_cb : t ≠ cb := Nat.ne_of_lt (Nat.lt_of_lt_of_le A.lt fcb)
  have ne_g_cb : g ≠ cb := Nat.ne_of_lt (Nat.lt_of_lt_of_le Eg.lt fcb)
  have sz_cb : h0.size ≤ cb := Nat.le_trans K.1 fcb
  have A := A.keep Kc (ninS ne_t_a nin0)
  have Eg := Eg.keep Kc
  have K := K.trans Kc (allS (Or.inl (by simp)) all0)
  show Go w l _ n0 _ h62 1 3 12 #[.val (.ref a), .val (.int p)] [(.ref cb)]
  refine g_len C Ac d10_12 (pc' := 13) rfl ?_
  refine g_if_eq C d10_13 (by decide) (pc' := 23) (by decide) (pcN := 16) rfl (fun _ => ?_) (fun q => absurd hL0 q)
  exact g_ret C rfl d10_23 ⟨rfl, K, ⟨E_c, F1_c, F2_c, F3_c⟩⟩ (by decide) (by decide)
def R_m_seq : Room := ({ frames := 2, cells := 1, slots := 3, locals := 32 } : Room)
set_option maxRecDepth 65536 in
set_option maxHeartbeats 40000000 in
theorem m_seq {l : Launch} {Z : State} {a0 : Array Value} (hw : ∀ d ∈ tables_1, d.before a0 Z = true) {h0 : Heap} {n0 : Nat} (a t g : Addr) (p e z T B L i p2 : Int32) (f : Nat → Value) (p3 : Int32) (M : Rdr Z h0 a (.ref t) p e) (A : Arf Z h0 t "[B" .byte z f) (Eg : Exa Z h0 g "com/example/sigillum/sigillum/codec/DerTag") (Fg : Fld Z h0 g "com/example/sigillum/sigillum/codec/DerTag" "identifier" "I" (.int i)) (ga : n0 ≤ a) (ne_t_a : t ≠ a) (h1 : ¬ p < 0) (h2 : p < e) (h3 : p < z) (v1 : f p.toNatClampNeg = .int T) (h4 : T &&& 255 = i) (h5 : p + 1 < e) (h6 : ¬ p + 1 < 0) (h7 : p + 1 < z) (v2 : f (p + 1).toNatClampNeg = .int B) (h8 : B &&& 255 < 128) (h9 : ¬ 0 < lcmpW (B &&& 255).toInt64 (e - (p + 1 + 1)).toInt64) (hL : (B &&& 255).toInt64.toInt32 = L) (hp2 : p + 1 + 1 = p2) (hp3 : p2 + L = p3) (S : Sta Z h0 "com/example/sigillum/sigillum/codec/DerTag" "SEQUENCE" "Lcom/example/sigillum/sigillum/codec/DerTag;" (.ref g)) :
    Met l Z (⟨"com/example/sigillum/sigillum/codec/DerReader", "sequence", "()Lcom/example/sigillum/sigillum/codec/DerReader;"⟩ : MethodName) prog_79_method_6_code 3 (some (.object "com/example/sigillum/sigillum/codec/DerReader")) R_m_seq n0 h0 #[(.ref a)] (fun r h => ∃ b : Addr, r = some (.ref b) ∧ h0.size ≤ b ∧ n0 ≤ b ∧ Keep h0 h [a] ∧ Rdr Z h a (.ref t) p3 e ∧ Rdr Z h b (.ref t) p2 p3) := by
  refine Met.intro (plainFor_of_name (by first | (simp [plainName, overriddenIn, x]; done) | decide +kernel)) (fun mM => (show entryFrame mM #[(.ref a)] 3 = mkF mM 0 #[.val (.ref a), .unset, .unset] [] from by first | rfl | (simp [entryFrame, mkF, argsToLocals, Value.category]; done))) (fun w Y C => ?_)
  have K := Keep.refl h0 [a]
  obtain ⟨E, F1, F2, F3⟩ := M
  refine g_aloadN C d5_0 (pc' := 1) rfl rfl rfl ?_
  refine g_getS (host := "") C (Or.inl (hw _ (List.mem_of_getElem? (i := 38) rfl))) Via.refl S d5_1 (pc' := 4) rfl ?_
  refine g_private (rm := R_m_header) (a := a) C (y := (⟨"com/example/sigillum/sigillum/codec/DerReader", "header", "(Lcom/example/sigillum/sigillum/codec/DerTag;)I"⟩ : MethodName)) (hw _ (List.mem_of_getElem? (i := 41) rfl)) (hw _ (List.mem_of_getElem? (i := 42) rfl)) (g_selPriv C (yo := (⟨"com/example/sigillum/sigillum/codec/DerReader", "hasMore", "()Z"⟩ : MethodName)) rfl (hw _ (List.mem_of_getElem? (i := 31) rfl)) (hw _ (List.mem_of_getElem? (i := 42) rfl)) (hw _ (List.mem_of_getElem? (i := 43) rfl)) (by decide)) (hw _ (List.mem_of_getElem? (i := 43) rfl)) (hw _ (List.mem_of_getElem? (i := 44) rfl)) (by decide) E d5_4 (pc' := 7) rfl (argsL := [(.ref g)]) (rest := []) (lenOf pd_6 rfl) rfl (W := 0) (Nat.le_of_eq rfl) rfl (fun hn9 => Met.back (rm := R_m_header) (m_header hw a t g p e z T B L i p2 f ⟨E, F1, F2, F3⟩ A Eg Fg ga ne_t_a h1 h2 h3 v1 h4 h5 h6 h7 v2 h8 h9 hL hp2) hn9 C.hZ (hw _ (List.mem_of_getElem? (i := 44) rfl)) (hw _ (List.mem_of_getElem? (i := 2) rfl)) (by decide) (by decide)) (k' := 0) (n' := 0) rfl rfl (by decide) (by decide) ?_
  rintro _ h63 ⟨rfl, Kh, ⟨E_h, F1_h, F2_h, F3_h⟩⟩
  have A := A.keep Kh (ninS ne_t_a nin0)
  have Eg := Eg.keep Kh
  have K := K.trans Kh (allS (Or.inl (by simp)) all0)
  show Go w l _ n0 _ h63 0 0 7 #[.val (.ref a), .unset, .unset] [(.int L)]
  refine g_istoreN C d5_7 (pc' := 8) rfl (Ls' := #[.val (.ref a), .val (.int L), .unset]) rfl ?_
  refine g_new C (hw _ (List.mem_of_getElem? (i := 53) rfl)) (hw _ (List.mem_of_getElem? (i := 1) rfl)) (hw _ (List.mem_of_getElem? (i := 2) rfl)) d5_8 (pc' := 11) rfl (k' := 1) (n' := 3) rfl rfl (by decide) (by decide) ?_
  intro h64 b64 E64 fb64 gb64 A64 D64
  have ne_t_b64 : t ≠ b64 := Nat.ne_of_lt (Nat.lt_of_lt_of_le A.lt fb64)
  have ne_g_b64 : g ≠ b64 := Nat.ne_of_lt (Nat.lt_of_lt_of_le Eg.lt fb64)
  have ne_a_b64 : a ≠ b64 := Nat.ne_of_lt (Nat.lt_of_lt_of_le E_h.lt fb64)
  have sz_b64 : h0.size ≤ b64 := Nat.le_trans K.1 fb64
  have A := A.ext E64
  have Eg := Eg.ext E64
  have K := K.ext E64
  have E_h := E_h.ext E64
  have F1_h := F1_h.ext E64
  have F2_h := F2_h.ext E64
  have F3_h := F3_h.ext E64
  have F64_der : Fld Z h64 b64 "com/example/sigillum/sigillum/codec/DerReader" "der" "[B" .null := D64 (Or.inr (hw _ (List.mem_of_getElem? (i := 23) rfl))) (ty := (.array .byte)) (by decide)
  have F64_position : Fld Z h64 b64 "com/example/sigillum/sigillum/codec/DerReader" "position" "I" (.int (0 : Int32)) := D64 (Or.inl (hw _ (List.mem_of_getElem? (i := 25) rfl))) (ty := .int) (by decide)
  have F64_end : Fld Z h64 b64 "com/example/sigillum/sigillum/codec/DerReader" "end" "I" (.int (0 : Int32)) := D64 (Or.inr (hw _ (List.mem_of_getElem? (i := 27) rfl))) (ty := .int) (by decide)
  refine g_dup C d5_11 (pc' := 12) rfl rfl ?_
  refine g_aloadN C d5_12 (pc' := 13) rfl rfl rfl ?_
  refine g_getF (host := "") C (Or.inl (hw _ (List.mem_of_getElem? (i := 22) rfl))) Via.refl F1_h d5_13 (pc' := 16) rfl ?_
  refine g_aloadN C d5_16 (pc' := 17) rfl rfl rfl ?_
  refine g_getF (host := "") C (Or.inl (hw _ (List.mem_of_getElem? (i := 24) rfl))) Via.refl F2_h d5_17 (pc' := 20) rfl ?_
  refine g_aloadN C d5_20 (pc' := 21) rfl rfl rfl ?_
  refine g_getF (host := "") C (Or.inl (hw _ (List.mem_of_getElem? (i := 24) rfl))) Via.refl F2_h d5_21 (pc' := 24) rfl ?_
  refine g_iloadN C d5_24 (pc' := 25) rfl rfl ?_
  refine g_iadd C d5_25 (pc' := 26) rfl ?_
  rw [hp3]
  refine g_special (rm := R_m_init3) (a := b64) C (y := (⟨"com/example/sigillum/sigillum/codec/DerReader", "<init>", "([BII)V"⟩ : MethodName)) rfl (hw _ (List.mem_of_getElem? (i := 16) rfl)) (hw _ (List.mem_of_getElem? (i := 17) rfl)) (hw _ (List.mem_of_getElem? (i := 18) rfl)) (by decide) d5_26 (pc' := 29) rfl (argsL := [(.ref t), (.int p2), (.int p3)]) (rest := [(.ref b64)]) (lenOf pd_0 rfl) rfl (W := 1) (Nat.le_of_eq rfl) rfl (fun hn9 => Met.back (rm := R_m_init3) (m_init3 hw b64 t p2 p3 ⟨A64, F64_der, F64_position, F64_end⟩ gb64) hn9 C.hZ (hw _ (List.mem_of_getElem? (i := 18) rfl)) (hw _ (List.mem_of_getElem? (i := 2) rfl)) (by decide) (by decide)) (k' := 1) (n' := 3) rfl rfl (by decide) (by decide) ?_
  rintro _ h65 ⟨rfl, Ki, ⟨E_b64, F1_b64, F2_b64, F3_b64⟩⟩
  have A := A.keep Ki (ninS ne_t_b64 nin0)
  have Eg := Eg.keep Ki
  have K := K.trans Ki (allS (Or.inr sz_b64) all0)
  have E_h := E_h.keep Ki
  have F1_h := F1_h.keep Ki (ninS ne_a_b64 nin0)
  have F2_h := F2_h.keep Ki (ninS ne_a_b64 nin0)
  have F3_h := F3_h.keep Ki (ninS ne_a_b64 nin0)
  show Go w l _ n0 _ h65 1 3 29 #[.val (.ref a), .val (.int L), .unset] [(.ref b64)]
  refine g_astoreN C d5_29 (pc' := 30) rfl rfl (Ls' := #[.val (.ref a), .val (.int L), .val (.ref b64)]) rfl ?_
  refine g_aloadN C d5_30 (pc' := 31) rfl rfl rfl ?_
  refine g_dup C d5_31 (pc' := 32) rfl rfl ?_
  refine g_getF (host := "") C (Or.inl (hw _ (List.mem_of_getElem? (i := 24) rfl))) Via.refl F2_h d5_32 (pc' := 35) rfl ?_
  refine g_iloadN C d5_35 (pc' := 36) rfl rfl ?_
  refine g_iadd C d5_36 (pc' := 37) rfl ?_
  rw [hp3]
  refine g_putF (host := "") C (Or.inl (hw _ (List.mem_of_getElem? (i := 24) rfl))) Via.refl F2_h E_h (Or.inl (hw _ (List.mem_of_getElem? (i := 25) rfl))) (hw _ (List.mem_of_getElem? (i := 1) rfl)) (ty := .int) (by decide) rfl rfl d5_37 (pc' := 40) rfl ga (fun h66 W67 => ?_)
  have F2_h := F2_h.same W67
  have A := A.other W67 ne_t_a
  have Eg := Eg.wr W67
  have K := K.wr W67 (Or.inl (by simp))
  have E_h := E_h.wr W67
  have F1_h := F1_h.other W67 (Or.inr (slot_ne (Or.inr (hw _ (List.mem_of_getElem? (i := 23) rfl)) : Laid Z a0 "com/example/sigillum/sigillum/codec/DerReader" "com/example/sigillum/sigillum/codec/DerReader" "der" "[B") (Or.inl (hw _ (List.mem_of_getElem? (i := 25) rfl)) : Laid Z a0 "com/example/sigillum/sigillum/codec/DerReader" "com/example/sigillum/sigillum/codec/DerReader" "position" "I") (by decide) (t := (.array .byte)) (t' := .int) (by decide) (by decide)))
  have F3_h := F3_h.other W67 (Or.inr (slot_ne (Or.inr (hw _ (List.mem_of_getElem? (i := 27) rfl)) : Laid Z a0 "com/example/sigillum/sigillum/codec/DerReader" "com/example/sigillum/sigillum/codec/DerReader" "end" "I") (Or.inl (hw _ (List.mem_of_getElem? (i := 25) rfl)) : Laid Z a0 "com/example/sigillum/sigillum/codec/DerReader" "com/example/sigillum/sigillum/codec/DerReader" "position" "I") (by decide) (t := .int) (t' := .int) (by decide) (by decide)))
  have E_b64 := E_b64.wr W67
  have F1_b64 := F1_b64.other W67 (Or.inl (Ne.symm ne_a_b64))
  have F2_b64 := F2_b64.other W67 (Or.inl (Ne.symm ne_a_b64))
  have F3_b64 := F3_b64.other W67 (Or.inl (Ne.symm ne_a_b64))
  refine g_aloadN C d5_40 (pc' := 41) rfl rfl rfl ?_
  exact g_retA C rfl (t := (.object "com/example/sigillum/sigillum/codec/DerReader")) rfl rfl d5_41 ⟨b64, rfl, sz_b64, gb64, K, ⟨E_h, F1_h, F2_h, F3_h⟩, ⟨E_b64, F1_b64, F2_b64, F3_b64⟩⟩ (by decide) (by decide)
def R_m_put0 : Room := ({ frames := 0, cells := 0, slots := 0, locals := 0 } : Room)
set_option maxRecDepth 65536 in
set_option maxHeartbeats 40000000 in
theorem m_put0 {l : Launch} {Z : State} {a0 : Array Value} (hw : ∀ d ∈ tables_1, d.before a0 Z = true) {h0 : Heap} {n0 : Nat} (a : Addr) (p x z : Int32) (f : Nat → Value) (A : Arf Z h0 a "[B" .byte z f) (ga : n0 ≤ a) (h1 : ¬ p < 0) (h2 : p < z) (h3 : ¬ p + 1 < 0) (h4 : p + 1 < z) :
    Met l Z (⟨"com/example/sigillum/sigillum/codec/DerReaderHasMorePinLaw", "put", "([BIZB)I"⟩ : MethodName) method_3_code 4 (some .int) R_m_put0 n0 h0 #[(.ref a), (.int p), (.int (0 : Int32)), (.int x)] (fun r h => r = some (.int (p + 2)) ∧ Keep h0 h [a] ∧ Arf Z h a "[B" .byte z (upd (upd f p.toNatClampNeg (.int (5 : Int32))) (p + 1).toNatClampNeg (.int (0 : Int32)))) := by
  refine Met.intro (plainFor_of_name (by first | (simp [plainName, overriddenIn, x]; done) | decide +kernel)) (fun mM => (show entryFrame mM #[(.ref a), (.int p), (.int (0 : Int32)), (.int x)] 4 = mkF mM 0 #[.val (.ref a), .val (.int p), .val (.int (0 : Int32)), .val (.int x)] [] from by first | rfl | (simp [entryFrame, mkF, argsToLocals, Value.category]; done))) (fun w Y C => ?_)
  have K := Keep.refl h0 [a]
  refine g_iloadN C d8_0 (pc' := 1) rfl rfl ?_
  refine g_if_eq C d8_1 (by decide) (pc' := 24) (by decide) (pcN := 4) rfl (fun _ => ?_) (fun q => absurd rfl q)
  refine g_aloadN C d8_24 (pc' := 25) rfl rfl rfl ?_
  refine g_iloadN C d8_25 (pc' := 26) rfl rfl ?_
  refine g_iconst C (z := (5 : Int32)) d8_26 (pc' := 27) rfl rfl ?_
  refine g_bastore C A h1 h2 d8_27 (pc' := 28) rfl ga (fun h68 W69 A' => ?_)
  have K := K.wr W69 (Or.inl (by simp))
  have A : Arf Z h68 a "[B" .byte z (upd f p.toNatClampNeg (.int (5 : Int32))) := A'
  refine g_aloadN C d8_28 (pc' := 29) rfl rfl rfl ?_
  refine g_iloadN C d8_29 (pc' := 30) rfl rfl ?_
  refine g_iconst C (z := (1 : Int32)) d8_30 (pc' := 31) rfl rfl ?_
  refine g_iadd C d8_31 (pc' := 32) rfl ?_
  refine g_iconst C (z := (0 : Int32)) d8_32 (pc' := 33) rfl rfl ?_
  refine g_bastore C A h3 h4 d8_33 (pc' := 34) rfl ga (fun h70 W71 A' => ?_)
  have K := K.wr W71 (Or.inl (by simp))
  have A : Arf Z h70 a "[B" .byte z (upd (upd f p.toNatClampNeg (.int (5 : Int32))) (p + (1 : Int32)).toNatClampNeg (.int (0 : Int32))) := A'
  refine g_iloadN C d8_34 (pc' := 35) rfl rfl ?_
  refine g_iconst C (z := (2 : Int32)) d8_35 (pc' := 36) rfl rfl ?_
  refine g_iadd C d8_36 (pc' := 37) rfl ?_
  exact g_retI C rfl d8_37 ⟨rfl, K, A⟩ (by decide) (by decide)
def R_m_put1 : Room := ({ frames := 0, cells := 0, slots := 0, locals := 0 } : Room)
set_option maxRecDepth 65536 in
set_option maxHeartbeats 40000000 in
theorem m_put1 {l : Launch} {Z : State} {a0 : Array Value} (hw : ∀ d ∈ tables_1, d.before a0 Z = true) {h0 : Heap} {n0 : Nat} (a : Addr) (p x z : Int32) (f : Nat → Value) (A : Arf Z h0 a "[B" .byte z f) (ga : n0 ≤ a) (h1 : ¬ p < 0) (h2 : p < z) (h3 : ¬ p + 1 < 0) (h4 : p + 1 < z) (h5 : ¬ p + 2 < 0) (h6 : p + 2 < z) :
    Met l Z (⟨"com/example/sigillum/sigillum/codec/DerReaderHasMorePinLaw", "put", "([BIZB)I"⟩ : MethodName) method_3_code 4 (some .int) R_m_put1 n0 h0 #[(.ref a), (.int p), (.int (1 : Int32)), (.int x)] (fun r h => r = some (.int (p + 3)) ∧ Keep h0 h [a] ∧ Arf Z h a "[B" .byte z (upd (upd (upd f p.toNatClampNeg (.int (4 : Int32))) (p + 1).toNatClampNeg (.int (1 : Int32))) (p + 2).toNatClampNeg (.int (nar .byte x)))) := by
  refine Met.intro (plainFor_of_name (by first | (simp [plainName, overriddenIn, x]; done) | decide +kernel)) (fun mM => (show entryFrame mM #[(.ref a), (.int p), (.int (1 : Int32)), (.int x)] 4 = mkF mM 0 #[.val (.ref a), .val (.int p), .val (.int (1 : Int32)), .val (.int x)] [] from by first | rfl | (simp [entryFrame, mkF, argsToLocals, Value.category]; done))) (fun w Y C => ?_)
  have K := Keep.refl h0 [a]
  refine g_iloadN C d8_0 (pc' := 1) rfl rfl ?_
  refine g_if_eq C d8_1 (by decide) (pc' := 24) (by decide) (pcN := 4) rfl (fun q => absurd q (by decide)) (fun _ => ?_)
  refine g_aloadN C d8_4 (pc' := 5) rfl rfl rfl ?_
  refine g_iloadN C d8_5 (pc' := 6) rfl rfl ?_
  refine g_iconst C (z := (4 : Int32)) d8_6 (pc' := 7) rfl rfl ?_
  refine g_bastore C A h1 h2 d8_7 (pc' := 8) rfl ga (fun h72 W73 A' => ?_)
  have K := K.wr W73 (Or.inl (by simp))
  have A : Arf Z h72 a "[B" .byte z (upd f p.toNatClampNeg (.int (4 : Int32))) := A'
  refine g_aloadN C d8_8 (pc' := 9) rfl rfl rfl ?_
  refine g_iloadN C d8_9 (pc' := 10) rfl rfl ?_
  refine g_iconst C (z := (1 : Int32)) d8_10 (pc' := 11) rfl rfl ?_
  refine g_iadd C d8_11 (pc' := 12) rfl ?_
  refine g_iconst C (z := (1 : Int32)) d8_12 (pc' := 13) rfl rfl ?_
  refine g_bastore C A h3 h4 d8_13 (pc' := 14) rfl ga (fun h74 W75 A' => ?_)
  have K := K.wr W75 (Or.inl (by simp))
  have A : Arf Z h74 a "[B" .byte z (upd (upd f p.toNatClampNeg (.int (4 : Int32))) (p + (1 : Int32)).toNatClampNeg (.int (1 : Int32))) := A'
  refine g_aloadN C d8_14 (pc' := 15) rfl rfl rfl ?_
  refine g_iloadN C d8_15 (pc' := 16) rfl rfl ?_
  refine g_iconst C (z := (2 : Int32)) d8_16 (pc' := 17) rfl rfl ?_
  refine g_iadd C d8_17 (pc' := 18) rfl ?_
  refine g_iloadN C d8_18 (pc' := 19) rfl rfl ?_
  refine g_bastore C A h5 h6 d8_19 (pc' := 20) rfl ga (fun h76 W77 A' => ?_)
  have K := K.wr W77 (Or.inl (by simp))
  have A : Arf Z h76 a "[B" .byte z (upd (upd (upd f p.toNatClampNeg (.int (4 : Int32))) (p + (1 : Int32)).toNatClampNeg (.int (1 : Int32))) (p + (2 : Int32)).toNatClampNeg (.int (nar .byte x))) := A'
  refine g_iloadN C d8_20 (pc' := 21) rfl rfl ?_
  refine g_iconst C (z := (3 : Int32)) d8_21 (pc' := 22) rfl rfl ?_
  refine g_iadd C d8_22 (pc' := 23) rfl ?_
  exact g_retI C rfl d8_23 ⟨rfl, K, A⟩ (by decide) (by decide)
def R_m_read0 : Room := ({ frames := 5, cells := 1, slots := 3, locals := 76 } : Room)
set_option maxRecDepth 65536 in
set_option maxHeartbeats 40000000 in
theorem m_read0 {l : Launch} {Z : State} {a0 : Array Value} (hw : ∀ d ∈ tables_1, d.before a0 Z = true) {h0 : Heap} {n0 : Nat} (a t g : Addr) (p e z T B L i p2 : Int32) (f : Nat → Value) (M : Rdr Z h0 a (.ref t) p e) (A : Arf Z h0 t "[B" .byte z f) (Eg : Exa Z h0 g "com/example/sigillum/sigillum/codec/DerTag") (Fg : Fld Z h0 g "com/example/sigillum/sigillum/codec/DerTag" "identifier" "I" (.int i)) (ga : n0 ≤ a) (ne_t_a : t ≠ a) (h1 : ¬ p < 0) (h2 : p < e) (h3 : p < z) (v1 : f p.toNatClampNeg = .int T) (h4 : T &&& 255 = i) (h5 : p + 1 < e) (h6 : ¬ p + 1 < 0) (h7 : p + 1 < z) (v2 : f (p + 1).toNatClampNeg = .int B) (h8 : B &&& 255 < 128) (h9 : ¬ 0 < lcmpW (B &&& 255).toInt64 (e - (p + 1 + 1)).toInt64) (hL : (B &&& 255).toInt64.toInt32 = L) (hp2 : p + 1 + 1 = p2) (p3 m : Int32) (hp3 : p2 + L = p3) (hp0 : ¬ p2 = 0) (hq : ¬ p3 < p2) (hd : p3 - p2 = L) (hn : ¬ L < 0) (hc : L.toNatClampNeg ≤ 3) (hm : own_min (z - p2) L = m) (k1 : ¬ p2 < 0) (k3 : ¬ m < 0) (k4 : p2.toNatClampNeg + m.toNatClampNeg ≤ z.toNatClampNeg) (k5 : 0 + m.toNatClampNeg ≤ L.toNatClampNeg) (hL0 : L = 0) (S : Sta Z h0 "com/example/sigillum/sigillum/codec/DerTag" "NULL" "Lcom/example/sigillum/sigillum/codec/DerTag;" (.ref g)) :
    Met l Z (⟨"com/example/sigillum/sigillum/codec/DerReaderHasMorePinLaw", "read", "(Lcom/example/sigillum/sigillum/codec/DerReader;Z)V"⟩ : MethodName) method_4_code 2 none R_m_read0 n0 h0 #[(.ref a), (.int (0 : Int32))] (fun r h => r = none ∧ Keep h0 h [a] ∧ Rdr Z h a (.ref t) p3 e) := by
  refine Met.intro (plainFor_of_name (by first | (simp [plainName, overriddenIn, x]; done) | decide +kernel)) (fun mM => (show entryFrame mM #[(.ref a), (.int (0 : Int32))] 2 = mkF mM 0 #[.val (.ref a), .val (.int (0 : Int32))] [] from by first | rfl | (simp [entryFrame, mkF, argsToLocals, Value.category]; done))) (fun w Y C => ?_)
  have K := Keep.refl h0 [a]
  obtain ⟨E, F1, F2, F3⟩ := M
  refine g_iloadN C d9_0 (pc' := 1) rfl rfl ?_
  refine g_if_eq C d9_1 (by decide) (pc' := 12) (by decide) (pcN := 4) rfl (fun _ => ?_) (fun q => absurd rfl q)
  refine g_aloadN C d9_12 (pc' := 13) rfl rfl rfl ?_
  refine g_virtual (rm := R_m_null) (a := a) C (y := (⟨"com/example/sigillum/sigillum/codec/DerReader", "nullValue", "()V"⟩ : MethodName)) (y' := (⟨"com/example/sigillum/sigillum/codec/DerReader", "nullValue", "()V"⟩ : MethodName)) (hw _ (List.mem_of_getElem? (i := 61) rfl)) (hw _ (List.mem_of_getElem? (i := 62) rfl)) (g_nf C (hw _ (List.mem_of_getElem? (i := 64) rfl))) (hw _ (List.mem_of_getElem? (i := 64) rfl)) (hw _ (List.mem_of_getElem? (i := 63) rfl)) (by decide) E d9_13 (pc' := 16) rfl (argsL := []) (rest := []) (lenOf pd_8 rfl) rfl (W := 0) (Nat.le_of_eq rfl) rfl (fun hn9 => Met.back (rm := R_m_null) (m_null hw a t g p e z T B L i p2 f ⟨E, F1, F2, F3⟩ A Eg Fg ga ne_t_a h1 h2 h3 v1 h4 h5 h6 h7 v2 h8 h9 hL hp2 p3 m hp3 hp0 hq hd hn hc hm k1 k3 k4 k5 hL0 S) hn9 C.hZ (hw _ (List.mem_of_getElem? (i := 65) rfl)) (hw _ (List.mem_of_getElem? (i := 2) rfl)) (by decide) (by decide)) (k' := 1) (n' := 3) rfl rfl (by decide) (by decide) ?_
  rintro _ h78 ⟨rfl, Kc, ⟨E_o, F1_o, F2_o, F3_o⟩⟩
  have A := A.keep Kc (ninS ne_t_a nin0)
  have Eg := Eg.keep Kc
  have K := K.trans Kc (allS (Or.inl (by simp)) all0)
  show Go w l _ n0 _ h78 1 3 16 #[.val (.ref a), .val (.int (0 : Int32))] []
  exact g_ret C rfl d9_16 ⟨rfl, K, ⟨E_o, F1_o, F2_o, F3_o⟩⟩ (by decide) (by decide)
def R_m_read1 : Room := ({ frames := 5, cells := 1, slots := 3, locals := 75 } : Room)
set_option maxRecDepth 65536 in
set_option maxHeartbeats 40000000 in
theorem m_read1 {l : Launch} {Z : State} {a0 : Array Value} (hw : ∀ d ∈ tables_1, d.before a0 Z = true) {h0 : Heap} {n0 : Nat} (a t g : Addr) (p e z T B L i p2 : Int32) (f : Nat → Value) (M : Rdr Z h0 a (.ref t) p e) (A : Arf Z h0 t "[B" .byte z f) (Eg : Exa Z h0 g "com/example/sigillum/sigillum/codec/DerTag") (Fg : Fld Z h0 g "com/example/sigillum/sigillum/codec/DerTag" "identifier" "I" (.int i)) (ga : n0 ≤ a) (ne_t_a : t ≠ a) (h1 : ¬ p < 0) (h2 : p < e) (h3 : p < z) (v1 : f p.toNatClampNeg = .int T) (h4 : T &&& 255 = i) (h5 : p + 1 < e) (h6 : ¬ p + 1 < 0) (h7 : p + 1 < z) (v2 : f (p + 1).toNatClampNeg = .int B) (h8 : B &&& 255 < 128) (h9 : ¬ 0 < lcmpW (B &&& 255).toInt64 (e - (p + 1 + 1)).toInt64) (hL : (B &&& 255).toInt64.toInt32 = L) (hp2 : p + 1 + 1 = p2) (p3 m : Int32) (hp3 : p2 + L = p3) (hp0 : ¬ p2 = 0) (hq : ¬ p3 < p2) (hd : p3 - p2 = L) (hn : ¬ L < 0) (hc : L.toNatClampNeg ≤ 3) (hm : own_min (z - p2) L = m) (k1 : ¬ p2 < 0) (k3 : ¬ m < 0) (k4 : p2.toNatClampNeg + m.toNatClampNeg ≤ z.toNatClampNeg) (k5 : 0 + m.toNatClampNeg ≤ L.toNatClampNeg) (S : Sta Z h0 "com/example/sigillum/sigillum/codec/DerTag" "OCTET_STRING" "Lcom/example/sigillum/sigillum/codec/DerTag;" (.ref g)) :
    Met l Z (⟨"com/example/sigillum/sigillum/codec/DerReaderHasMorePinLaw", "read", "(Lcom/example/sigillum/sigillum/codec/DerReader;Z)V"⟩ : MethodName) method_4_code 2 none R_m_read1 n0 h0 #[(.ref a), (.int (1 : Int32))] (fun r h => r = none ∧ Keep h0 h [a] ∧ Rdr Z h a (.ref t) p3 e) := by
  refine Met.intro (plainFor_of_name (by first | (simp [plainName, overriddenIn, x]; done) | decide +kernel)) (fun mM => (show entryFrame mM #[(.ref a), (.int (1 : Int32))] 2 = mkF mM 0 #[.val (.ref a), .val (.int (1 : Int32))] [] from by first | rfl | (simp [entryFrame, mkF, argsToLocals, Value.category]; done))) (fun w Y C => ?_)
  have K := Keep.refl h0 [a]
  obtain ⟨E, F1, F2, F3⟩ := M
  refine g_iloadN C d9_0 (pc' := 1) rfl rfl ?_
  refine g_if_eq C d9_1 (by decide) (pc' := 12) (by decide) (pcN := 4) rfl (fun q => absurd q (by decide)) (fun _ => ?_)
  refine g_aloadN C d9_4 (pc' := 5) rfl rfl rfl ?_
  refine g_virtual (rm := R_m_octets) (a := a) C (y := (⟨"com/example/sigillum/sigillum/codec/DerReader", "octetString", "()[B"⟩ : MethodName)) (y' := (⟨"com/example/sigillum/sigillum/codec/DerReader", "octetString", "()[B"⟩ : MethodName)) (hw _ (List.mem_of_getElem? (i := 90) rfl)) (hw _ (List.mem_of_getElem? (i := 91) rfl)) (g_nf C (hw _ (List.mem_of_getElem? (i := 93) rfl))) (hw _ (List.mem_of_getElem? (i := 93) rfl)) (hw _ (List.mem_of_getElem? (i := 92) rfl)) (by decide) E d9_5 (pc' := 8) rfl (argsL := []) (rest := []) (lenOf pd_9 rfl) rfl (W := 0) (Nat.le_of_eq rfl) rfl (fun hn9 => Met.back (rm := R_m_octets) (m_octets hw a t g p e z T B L i p2 f ⟨E, F1, F2, F3⟩ A Eg Fg ga ne_t_a h1 h2 h3 v1 h4 h5 h6 h7 v2 h8 h9 hL hp2 p3 m hp3 hp0 hq hd hn hc hm k1 k3 k4 k5 S) hn9 C.hZ (hw _ (List.mem_of_getElem? (i := 94) rfl)) (hw _ (List.mem_of_getElem? (i := 2) rfl)) (by decide) (by decide)) (k' := 1) (n' := 3) rfl rfl (by decide) (by decide) ?_
  rintro _ h79 ⟨⟨cb, rfl⟩, Kc, ⟨E_o, F1_o, F2_o, F3_o⟩⟩
  have A := A.keep Kc (ninS ne_t_a nin0)
  have Eg := Eg.keep Kc
  have K := K.trans Kc (allS (Or.inl (by simp)) all0)
  show Go w l _ n0 _ h79 1 3 8 #[.val (.ref a), .val (.int (1 : Int32))] [(.ref cb)]
  refine g_pop C d9_8 (pc' := 9) rfl rfl ?_
  refine g_goto C d9_9 (by decide) (pc' := 16) (by decide) ?_
  exact g_ret C rfl d9_16 ⟨rfl, K, ⟨E_o, F1_o, F2_o, F3_o⟩⟩ (by decide) (by decide)
set_option maxRecDepth 65536 in
set_option maxHeartbeats 40000000 in
theorem seg82_00 {l : Launch} {Z : State} {a0 : Array Value} (hw : ∀ d ∈ tables_1, d.before a0 Z = true) {w : Wk} {n0 : Nat} {h0 : Heap} {Y : State → Outcome → Prop} (p0 p1 p2 p3 k0 k1 : Int32) (t_SEQUENCE t_NULL t_OCTET_STRING : Addr) (C : Cx w Z "com/example/sigillum/sigillum/codec/DerReaderHasMorePinLaw" code 17 (some .boolean) "law" room_1 n0 (fun v _ => v = some (.int 1)) Y) (X : Old Z n0 h0) (S_SEQUENCE : Sta Z Z.heap "com/example/sigillum/sigillum/codec/DerTag" "SEQUENCE" "Lcom/example/sigillum/sigillum/codec/DerTag;" (.ref t_SEQUENCE)) (E_SEQUENCE : Exa Z h0 t_SEQUENCE "com/example/sigillum/sigillum/codec/DerTag") (F_SEQUENCE : Fld Z h0 t_SEQUENCE "com/example/sigillum/sigillum/codec/DerTag" "identifier" "I" (.int 48)) (S_NULL : Sta Z Z.heap "com/example/sigillum/sigillum/codec/DerTag" "NULL" "Lcom/example/sigillum/sigillum/codec/DerTag;" (.ref t_NULL)) (E_NULL : Exa Z h0 t_NULL "com/example/sigillum/sigillum/codec/DerTag") (F_NULL : Fld Z h0 t_NULL "com/example/sigillum/sigillum/codec/DerTag" "identifier" "I" (.int 5)) (S_OCTET_STRING : Sta Z Z.heap "com/example/sigillum/sigillum/codec/DerTag" "OCTET_STRING" "Lcom/example/sigillum/sigillum/codec/DerTag;" (.ref t_OCTET_STRING)) (E_OCTET_STRING : Exa Z h0 t_OCTET_STRING "com/example/sigillum/sigillum/codec/DerTag") (F_OCTET_STRING : Fld Z h0 t_OCTET_STRING "com/example/sigillum/sigillum/codec/DerTag" "identifier" "I" (.int 4)) :
    Go w l room_1 n0 Y h0 0 0 82 #[.val (.int p0), .val (.int p1), .val (.int p2), .val (.int p3), .val (.int (0 : Int32)), .val (.int k0), .val (.int k1), .val (.int (0 : Int32)), .unset, .unset, .unset, .unset, .unset, .unset, .unset, .unset, .unset] [] := by
  refine g_iload C at_82 (pc' := 84) rfl rfl ?_
  refine g_if_le C at_84 (by decide) (pc' := 100) (by decide) (pcN := 87) rfl (fun _ => ?_) (fun q => absurd q (by decide))
  refine g_iconst C (z := (0 : Int32)) at_100 (pc' := 101) rfl rfl ?_
  refine g_istore C at_101 (pc' := 103) rfl (Ls' := #[.val (.int p0), .val (.int p1), .val (.int p2), .val (.int p3), .val (.int (0 : Int32)), .val (.int k0), .val (.int k1), .val (.int (0 : Int32)), .val (.int (0 : Int32)), .unset, .unset, .unset, .unset, .unset, .unset, .unset, .unset]) rfl ?_
  refine g_iload C at_103 (pc' := 105) rfl rfl ?_
  refine g_iconst C (z := (1 : Int32)) at_105 (pc' := 106) rfl rfl ?_
  refine g_icmp_le C at_106 (by decide) (pc' := 122) (by decide) (pcN := 109) rfl (fun _ => ?_) (fun q => absurd q (by decide))
  refine g_iconst C (z := (0 : Int32)) at_122 (pc' := 123) rfl rfl ?_
  refine g_istore C at_123 (pc' := 125) rfl (Ls' := #[.val (.int p0), .val (.int p1), .val (.int p2), .val (.int p3), .val (.int (0 : Int32)), .val (.int k0), .val (.int k1), .val (.int (0 : Int32)), .val (.int (0 : Int32)), .val (.int (0 : Int32)), .unset, .unset, .unset, .unset, .unset, .unset, .unset]) rfl ?_
  refine g_iload C at_125 (pc' := 127) rfl rfl ?_
  refine g_iload C at_127 (pc' := 129) rfl rfl ?_
  refine g_iadd C at_129 (pc' := 130) rfl ?_
  show Go w l _ n0 _ h0 0 0 130 #[.val (.int p0), .val (.int p1), .val (.int p2), .val (.int p3), .val (.int (0 : Int32)), .val (.int k0), .val (.int k1), .val (.int (0 : Int32)), .val (.int (0 : Int32)), .val (.int (0 : Int32)), .unset, .unset, .unset, .unset, .unset, .unset, .unset] [(.int (0 : Int32))]
  refine g_istore C at_130 (pc' := 132) rfl (Ls' := #[.val (.int p0), .val (.int p1), .val (.int p2), .val (.int p3), .val (.int (0 : Int32)), .val (.int k0), .val (.int k1), .val (.int (0 : Int32)), .val (.int (0 : Int32)), .val (.int (0 : Int32)), .val (.int (0 : Int32)), .unset, .unset, .unset, .unset, .unset, .unset]) rfl ?_
  refine g_iconst C (z := (2 : Int32)) at_132 (pc' := 133) rfl rfl ?_
  refine g_iload C at_133 (pc' := 135) rfl rfl ?_
  refine g_iadd C at_135 (pc' := 136) rfl ?_
  show Go w l _ n0 _ h0 0 0 136 #[.val (.int p0), .val (.int p1), .val (.int p2), .val (.int p3), .val (.int (0 : Int32)), .val (.int k0), .val (.int k1), .val (.int (0 : Int32)), .val (.int (0 : Int32)), .val (.int (0 : Int32)), .val (.int (0 : Int32)), .unset, .unset, .unset, .unset, .unset, .unset] [(.int (2 : Int32))]
  refine g_iload C at_136 (pc' := 138) rfl rfl ?_
  refine g_if_eq C at_138 (by decide) (pc' := 145) (by decide) (pcN := 141) rfl (fun _ => ?_) (fun q => absurd rfl q)
  refine g_iconst C (z := (0 : Int32)) at_145 (pc' := 146) rfl rfl ?_
  refine g_iadd C at_146 (pc' := 147) rfl ?_
  show Go w l _ n0 _ h0 0 0 147 #[.val (.int p0), .val (.int p1), .val (.int p2), .val (.int p3), .val (.int (0 : Int32)), .val (.int k0), .val (.int k1), .val (.int (0 : Int32)), .val (.int (0 : Int32)), .val (.int (0 : Int32)), .val (.int (0 : Int32)), .unset, .unset, .unset, .unset, .unset, .unset] [(.int (2 : Int32))]
  refine g_istore C at_147 (pc' := 149) rfl (Ls' := #[.val (.int p0), .val (.int p1), .val (.int p2), .val (.int p3), .val (.int (0 : Int32)), .val (.int k0), .val (.int k1), .val (.int (0 : Int32)), .val (.int (0 : Int32)), .val (.int (0 : Int32)), .val (.int (0 : Int32)), .val (.int (2 : Int32)), .unset, .unset, .unset, .unset, .unset]) rfl ?_
  refine g_iload C at_149 (pc' := 151) rfl rfl ?_
  refine g_newarr C (ad := "[B") (cap := 2) (hw _ (List.mem_of_getElem? (i := 3) rfl)) at_151 (pc' := 153) rfl rfl (by decide) (by decide) (by decide) (k' := 1) (n' := 2) rfl rfl (by decide) (by decide) rfl ?_
  intro h80 b80 E80 fb80 gb80 A80
  have ne_t_SEQUENCE_b80 : t_SEQUENCE ≠ b80 := Nat.ne_of_lt (Nat.lt_of_lt_of_le E_SEQUENCE.lt fb80)
  have ne_t_NULL_b80 : t_NULL ≠ b80 := Nat.ne_of_lt (Nat.lt_of_lt_of_le E_NULL.lt fb80)
  have ne_t_OCTET_STRING_b80 : t_OCTET_STRING ≠ b80 := Nat.ne_of_lt (Nat.lt_of_lt_of_le E_OCTET_STRING.lt fb80)
  have X := X.ext E80
  have E_SEQUENCE := E_SEQUENCE.ext E80
  have F_SEQUENCE := F_SEQUENCE.ext E80
  have E_NULL := E_NULL.ext E80
  have F_NULL := F_NULL.ext E80
  have E_OCTET_STRING := E_OCTET_STRING.ext E80
  have F_OCTET_STRING := F_OCTET_STRING.ext E80
  have A80 : Arf Z h80 b80 "[B" .byte (2 : Int32) (fun _ => (.int 0)) := A80
  refine g_astore C at_153 (pc' := 155) rfl rfl (Ls' := #[.val (.int p0), .val (.int p1), .val (.int p2), .val (.int p3), .val (.int (0 : Int32)), .val (.int k0), .val (.int k1), .val (.int (0 : Int32)), .val (.int (0 : Int32)), .val (.int (0 : Int32)), .val (.int (0 : Int32)), .val (.int (2 : Int32)), .val (.ref b80), .unset, .unset, .unset, .unset]) rfl ?_
  refine g_aload C at_155 (pc' := 157) rfl rfl rfl ?_
  refine g_iconst C (z := (0 : Int32)) at_157 (pc' := 158) rfl rfl ?_
  refine g_bipush C (z := (48 : Int32)) at_158 (pc' := 160) rfl rfl ?_
  refine g_bastore C A80 (by decide) (by decide) at_160 (pc' := 161) rfl gb80 (fun h81 W82 A80' => ?_)
  have X := X.wr W82 gb80
  have E_SEQUENCE := E_SEQUENCE.wr W82
  have F_SEQUENCE := F_SEQUENCE.other W82 (Or.inl ne_t_SEQUENCE_b80)
  have E_NULL := E_NULL.wr W82
  have F_NULL := F_NULL.other W82 (Or.inl ne_t_NULL_b80)
  have E_OCTET_STRING := E_OCTET_STRING.wr W82
  have F_OCTET_STRING := F_OCTET_STRING.other W82 (Or.inl ne_t_OCTET_STRING_b80)
  have A80 : Arf Z h81 b80 "[B" .byte (2 : Int32) (upd (fun _ => (.int 0)) 0 (.int (48 : Int32))) := A80'
  refine g_aload C at_161 (pc' := 163) rfl rfl rfl ?_
  refine g_iconst C (z := (1 : Int32)) at_163 (pc' := 164) rfl rfl ?_
  refine g_iload C at_164 (pc' := 166) rfl rfl ?_
  refine g_i2b C at_166 (pc' := 167) rfl ?_
  show Go w l _ n0 _ h81 1 2 167 #[.val (.int p0), .val (.int p1), .val (.int p2), .val (.int p3), .val (.int (0 : Int32)), .val (.int k0), .val (.int k1), .val (.int (0 : Int32)), .val (.int (0 : Int32)), .val (.int (0 : Int32)), .val (.int (0 : Int32)), .val (.int (2 : Int32)), .val (.ref b80), .unset, .unset, .unset, .unset] [(.int (0 : Int32)), (.int (1 : Int32)), (.ref b80)]
  refine g_bastore C A80 (by decide) (by decide) at_167 (pc' := 168) rfl gb80 (fun h83 W84 A80' => ?_)
  have X := X.wr W84 gb80
  have E_SEQUENCE := E_SEQUENCE.wr W84
  have F_SEQUENCE := F_SEQUENCE.other W84 (Or.inl ne_t_SEQUENCE_b80)
  have E_NULL := E_NULL.wr W84
  have F_NULL := F_NULL.other W84 (Or.inl ne_t_NULL_b80)
  have E_OCTET_STRING := E_OCTET_STRING.wr W84
  have F_OCTET_STRING := F_OCTET_STRING.other W84 (Or.inl ne_t_OCTET_STRING_b80)
  have A80 : Arf Z h83 b80 "[B" .byte (2 : Int32) (upd (upd (fun _ => (.int 0)) 0 (.int (48 : Int32))) 1 (.int (0 : Int32))) := A80'
  refine g_iconst C (z := (2 : Int32)) at_168 (pc' := 169) rfl rfl ?_
  refine g_istore C at_169 (pc' := 171) rfl (Ls' := #[.val (.int p0), .val (.int p1), .val (.int p2), .val (.int p3), .val (.int (0 : Int32)), .val (.int k0), .val (.int k1), .val (.int (0 : Int32)), .val (.int (0 : Int32)), .val (.int (0 : Int32)), .val (.int (0 : Int32)), .val (.int (2 : Int32)), .val (.ref b80), .val (.int (2 : Int32)), .unset, .unset, .unset]) rfl ?_
  refine g_iload C at_171 (pc' := 173) rfl rfl ?_
  refine g_if_le C at_173 (by decide) (pc' := 189) (by decide) (pcN := 176) rfl (fun _ => ?_) (fun q => absurd q (by decide))
  refine g_iload C at_189 (pc' := 191) rfl rfl ?_
  refine g_iconst C (z := (1 : Int32)) at_191 (pc' := 192) rfl rfl ?_
  refine g_icmp_le C at_192 (by decide) (pc' := 208) (by decide) (pcN := 195) rfl (fun _ => ?_) (fun q => absurd q (by decide))
  refine g_iload C at_208 (pc' := 210) rfl rfl ?_
  refine g_if_eq C at_210 (by decide) (pc' := 220) (by decide) (pcN := 213) rfl (fun _ => ?_) (fun q => absurd rfl q)
  refine g_new C (hw _ (List.mem_of_getElem? (i := 0) rfl)) (hw _ (List.mem_of_getElem? (i := 1) rfl)) (hw _ (List.mem_of_getElem? (i := 2) rfl)) at_220 (pc' := 223) rfl (k' := 2) (n' := 5) rfl rfl (by decide) (by decide) ?_
  intro h85 b85 E85 fb85 gb85 A85 D85
  have ne_t_SEQUENCE_b85 : t_SEQUENCE ≠ b85 := Nat.ne_of_lt (Nat.lt_of_lt_of_le E_SEQUENCE.lt fb85)
  have ne_t_NULL_b85 : t_NULL ≠ b85 := Nat.ne_of_lt (Nat.lt_of_lt_of_le E_NULL.lt fb85)
  have ne_t_OCTET_STRING_b85 : t_OCTET_STRING ≠ b85 := Nat.ne_of_lt (Nat.lt_of_lt_of_le E_OCTET_STRING.lt fb85)
  have ne_b80_b85 : b80 ≠ b85 := Nat.ne_of_lt (Nat.lt_of_lt_of_le A80.lt fb85)
  have X := X.ext E85
  have E_SEQUENCE := E_SEQUENCE.ext E85
  have F_SEQUENCE := F_SEQUENCE.ext E85
  have E_NULL := E_NULL.ext E85
  have F_NULL := F_NULL.ext E85
  have E_OCTET_STRING := E_OCTET_STRING.ext E85
  have F_OCTET_STRING := F_OCTET_STRING.ext E85
  have A80 := A80.ext E85
  have F85_der : Fld Z h85 b85 "com/example/sigillum/sigillum/codec/DerReader" "der" "[B" .null := D85 (Or.inr (hw _ (List.mem_of_getElem? (i := 23) rfl))) (ty := (.array .byte)) (by decide)
  have F85_position : Fld Z h85 b85 "com/example/sigillum/sigillum/codec/DerReader" "position" "I" (.int (0 : Int32)) := D85 (Or.inl (hw _ (List.mem_of_getElem? (i := 25) rfl))) (ty := .int) (by decide)
  have F85_end : Fld Z h85 b85 "com/example/sigillum/sigillum/codec/DerReader" "end" "I" (.int (0 : Int32)) := D85 (Or.inr (hw _ (List.mem_of_getElem? (i := 27) rfl))) (ty := .int) (by decide)
  refine g_dup C at_223 (pc' := 224) rfl rfl ?_
  refine g_aload C at_224 (pc' := 226) rfl rfl rfl ?_
  refine g_special (rm := R_m_init1) (a := b85) C (y := (⟨"com/example/sigillum/sigillum/codec/DerReader", "<init>", "([B)V"⟩ : MethodName)) rfl (hw _ (List.mem_of_getElem? (i := 4) rfl)) (hw _ (List.mem_of_getElem? (i := 5) rfl)) (hw _ (List.mem_of_getElem? (i := 6) rfl)) (by decide) at_226 (pc' := 229) rfl (argsL := [(.ref b80)]) (rest := [(.ref b85)]) (lenOf pd_10 rfl) rfl (W := 1) (Nat.le_of_eq rfl) rfl (fun hn9 => Met.back (rm := R_m_init1) (m_init1 hw b85 b80 (2 : Int32) (upd (upd (fun _ => (.int 0)) 0 (.int (48 : Int32))) 1 (.int (0 : Int32))) ⟨A85, F85_der, F85_position, F85_end⟩ A80 (by decide) gb85) hn9 C.hZ (hw _ (List.mem_of_getElem? (i := 6) rfl)) (hw _ (List.mem_of_getElem? (i := 2) rfl)) (by decide) (by decide)) (k' := 3) (n' := 14) rfl rfl (by decide) (by decide) ?_
  rintro _ h86 ⟨rfl, Ki, t_b85, ft_b85, gt_b85, ⟨E_b85, F1_b85, F2_b85, F3_b85⟩, At_b85⟩
  have ne_t_SEQUENCE_t_b85 : t_SEQUENCE ≠ t_b85 := Nat.ne_of_lt (Nat.lt_of_lt_of_le E_SEQUENCE.lt ft_b85)
  have ne_t_NULL_t_b85 : t_NULL ≠ t_b85 := Nat.ne_of_lt (Nat.lt_of_lt_of_le E_NULL.lt ft_b85)
  have ne_t_OCTET_STRING_t_b85 : t_OCTET_STRING ≠ t_b85 := Nat.ne_of_lt (Nat.lt_of_lt_of_le E_OCTET_STRING.lt ft_b85)
  have ne_b80_t_b85 : b80 ≠ t_b85 := Nat.ne_of_lt (Nat.lt_of_lt_of_le A80.lt ft_b85)
  have ne_b85_t_b85 : b85 ≠ t_b85 := Nat.ne_of_lt (Nat.lt_of_lt_of_le A85.lt ft_b85)
  have X := X.keep Ki (allS gb85 all0)
  have E_SEQUENCE := E_SEQUENCE.keep Ki
  have F_SEQUENCE := F_SEQUENCE.keep Ki (ninS ne_t_SEQUENCE_b85 nin0)
  have E_NULL := E_NULL.keep Ki
  have F_NULL := F_NULL.keep Ki (ninS ne_t_NULL_b85 nin0)
  have E_OCTET_STRING := E_OCTET_STRING.keep Ki
  have F_OCTET_STRING := F_OCTET_STRING.keep Ki (ninS ne_t_OCTET_STRING_b85 nin0)
  have A80 := A80.keep Ki (ninS ne_b80_b85 nin0)
  have A85 := A85.keep Ki
  show Go w l _ n0 _ h86 3 14 229 #[.val (.int p0), .val (.int p1), .val (.int p2), .val (.int p3), .val (.int (0 : Int32)), .val (.int k0), .val (.int k1), .val (.int (0 : Int32)), .val (.int (0 : Int32)), .val (.int (0 : Int32)), .val (.int (0 : Int32)), .val (.int (2 : Int32)), .val (.ref b80), .val (.int (2 : Int32)), .unset, .unset, .unset] [(.ref b85)]
  refine g_astore C at_229 (pc' := 231) rfl rfl (Ls' := #[.val (.int p0), .val (.int p1), .val (.int p2), .val (.int p3), .val (.int (0 : Int32)), .val (.int k0), .val (.int k1), .val (.int (0 : Int32)), .val (.int (0 : Int32)), .val (.int (0 : Int32)), .val (.int (0 : Int32)), .val (.int (2 : Int32)), .val (.ref b80), .val (.int (2 : Int32)), .val (.ref b85), .unset, .unset]) rfl ?_
  refine g_aload C at_231 (pc' := 233) rfl rfl rfl ?_
  refine g_virtual (rm := R_m_hasMore) (a := b85) C (y := (⟨"com/example/sigillum/sigillum/codec/DerReader", "hasMore", "()Z"⟩ : MethodName)) (y' := (⟨"com/example/sigillum/sigillum/codec/DerReader", "hasMore", "()Z"⟩ : MethodName)) (hw _ (List.mem_of_getElem? (i := 28) rfl)) (hw _ (List.mem_of_getElem? (i := 29) rfl)) (g_nf C (hw _ (List.mem_of_getElem? (i := 31) rfl))) (hw _ (List.mem_of_getElem? (i := 31) rfl)) (hw _ (List.mem_of_getElem? (i := 30) rfl)) (by decide) E_b85 at_233 (pc' := 236) rfl (argsL := []) (rest := []) (lenOf pd_1 rfl) rfl (W := 0) (Nat.le_of_eq rfl) rfl (fun hn9 => Met.back (rm := R_m_hasMore) (m_hasMore hw b85 (0 : Int32) (2 : Int32) F2_b85 F3_b85) hn9 C.hZ (hw _ (List.mem_of_getElem? (i := 32) rfl)) (hw _ (List.mem_of_getElem? (i := 2) rfl)) (by decide) (by decide)) (k' := 3) (n' := 14) rfl rfl (by decide) (by decide) ?_
  rintro _ _ ⟨rfl, rfl⟩
  show Go w l _ n0 _ h86 3 14 236 #[.val (.int p0), .val (.int p1), .val (.int p2), .val (.int p3), .val (.int (0 : Int32)), .val (.int k0), .val (.int k1), .val (.int (0 : Int32)), .val (.int (0 : Int32)), .val (.int (0 : Int32)), .val (.int (0 : Int32)), .val (.int (2 : Int32)), .val (.ref b80), .val (.int (2 : Int32)), .val (.ref b85), .unset, .unset] [(.int (1 : Int32))]
  refine g_istore C at_236 (pc' := 238) rfl (Ls' := #[.val (.int p0), .val (.int p1), .val (.int p2), .val (.int p3), .val (.int (0 : Int32)), .val (.int k0), .val (.int k1), .val (.int (0 : Int32)), .val (.int (0 : Int32)), .val (.int (0 : Int32)), .val (.int (0 : Int32)), .val (.int (2 : Int32)), .val (.ref b80), .val (.int (2 : Int32)), .val (.ref b85), .val (.int (1 : Int32)), .unset]) rfl ?_
  refine g_aload C at_238 (pc' := 240) rfl rfl rfl ?_
  refine g_virtual (rm := R_m_seq) (a := b85) C (y := (⟨"com/example/sigillum/sigillum/codec/DerReader", "sequence", "()Lcom/example/sigillum/sigillum/codec/DerReader;"⟩ : MethodName)) (y' := (⟨"com/example/sigillum/sigillum/codec/DerReader", "sequence", "()Lcom/example/sigillum/sigillum/codec/DerReader;"⟩ : MethodName)) (hw _ (List.mem_of_getElem? (i := 33) rfl)) (hw _ (List.mem_of_getElem? (i := 34) rfl)) (g_nf C (hw _ (List.mem_of_getElem? (i := 36) rfl))) (hw _ (List.mem_of_getElem? (i := 36) rfl)) (hw _ (List.mem_of_getElem? (i := 35) rfl)) (by decide) E_b85 at_240 (pc' := 243) rfl (argsL := []) (rest := []) (lenOf pd_11 rfl) rfl (W := 0) (Nat.le_of_eq rfl) rfl (fun hn9 => Met.back (rm := R_m_seq) (m_seq hw b85 t_b85 t_SEQUENCE (0 : Int32) (2 : Int32) (2 : Int32) (48 : Int32) (0 : Int32) (0 : Int32) (48 : Int32) (2 : Int32) (upd (upd (fun _ => (.int 0)) 0 (.int (48 : Int32))) 1 (.int (0 : Int32))) (2 : Int32) ⟨E_b85, F1_b85, F2_b85, F3_b85⟩ At_b85 E_SEQUENCE F_SEQUENCE gb85 (Ne.symm ne_b85_t_b85) (by decide) (by decide) (by decide) rfl (by decide) (by decide) (by decide) (by decide) rfl (by decide) (by decide) (by decide) (by decide) (by decide) (S_SEQUENCE.ext X.2)) hn9 C.hZ (hw _ (List.mem_of_getElem? (i := 37) rfl)) (hw _ (List.mem_of_getElem? (i := 2) rfl)) (by decide) (by decide)) (k' := 4) (n' := 17) rfl rfl (by decide) (by decide) ?_
  rintro _ h87 ⟨sq, rfl, fsq, gsq, Ks, ⟨E_b85, F1_b85, F2_b85, F3_b85⟩, ⟨E_sq, F1_sq, F2_sq, F3_sq⟩⟩
  have ne_t_SEQUENCE_sq : t_SEQUENCE ≠ sq := Nat.ne_of_lt (Nat.lt_of_lt_of_le E_SEQUENCE.lt fsq)
  have ne_t_NULL_sq : t_NULL ≠ sq := Nat.ne_of_lt (Nat.lt_of_lt_of_le E_NULL.lt fsq)
  have ne_t_OCTET_STRING_sq : t_OCTET_STRING ≠ sq := Nat.ne_of_lt (Nat.lt_of_lt_of_le E_OCTET_STRING.lt fsq)
  have ne_b80_sq : b80 ≠ sq := Nat.ne_of_lt (Nat.lt_of_lt_of_le A80.lt fsq)
  have ne_t_b85_sq : t_b85 ≠ sq := Nat.ne_of_lt (Nat.lt_of_lt_of_le At_b85.lt fsq)
  have X := X.keep Ks (allS gb85 all0)
  have E_SEQUENCE := E_SEQUENCE.keep Ks
  have F_SEQUENCE := F_SEQUENCE.keep Ks (ninS ne_t_SEQUENCE_b85 nin0)
  have E_NULL := E_NULL.keep Ks
  have F_NULL := F_NULL.keep Ks (ninS ne_t_NULL_b85 nin0)
  have E_OCTET_STRING := E_OCTET_STRING.keep Ks
  have F_OCTET_STRING := F_OCTET_STRING.keep Ks (ninS ne_t_OCTET_STRING_b85 nin0)
  have A80 := A80.keep Ks (ninS ne_b80_b85 nin0)
  have At_b85 := At_b85.keep Ks (ninS (Ne.symm ne_b85_t_b85) nin0)
  show Go w l _ n0 _ h87 4 17 243 #[.val (.int p0), .val (.int p1), .val (.int p2), .val (.int p3), .val (.int (0 : Int32)), .val (.int k0), .val (.int k1), .val (.int (0 : Int32)), .val (.int (0 : Int32)), .val (.int (0 : Int32)), .val (.int (0 : Int32)), .val (.int (2 : Int32)), .val (.ref b80), .val (.int (2 : Int32)), .val (.ref b85), .val (.int (1 : Int32)), .unset] [(.ref sq)]
  refine g_astore C at_243 (pc' := 245) rfl rfl (Ls' := #[.val (.int p0), .val (.int p1), .val (.int p2), .val (.int p3), .val (.int (0 : Int32)), .val (.int k0), .val (.int k1), .val (.int (0 : Int32)), .val (.int (0 : Int32)), .val (.int (0 : Int32)), .val (.int (0 : Int32)), .val (.int (2 : Int32)), .val (.ref b80), .val (.int (2 : Int32)), .val (.ref b85), .val (.int (1 : Int32)), .val (.ref sq)]) rfl ?_
  refine g_iload C at_245 (pc' := 247) rfl rfl ?_
  refine g_if_eq C at_247 (by decide) (pc' := 264) (by decide) (pcN := 250) rfl (fun q => absurd q (by decide)) (fun _ => ?_)
  refine g_aload C at_250 (pc' := 252) rfl rfl rfl ?_
  refine g_virtual (rm := R_m_hasMore) (a := b85) C (y := (⟨"com/example/sigillum/sigillum/codec/DerReader", "hasMore", "()Z"⟩ : MethodName)) (y' := (⟨"com/example/sigillum/sigillum/codec/DerReader", "hasMore", "()Z"⟩ : MethodName)) (hw _ (List.mem_of_getElem? (i := 28) rfl)) (hw _ (List.mem_of_getElem? (i := 29) rfl)) (g_nf C (hw _ (List.mem_of_getElem? (i := 31) rfl))) (hw _ (List.mem_of_getElem? (i := 31) rfl)) (hw _ (List.mem_of_getElem? (i := 30) rfl)) (by decide) E_b85 at_252 (pc' := 255) rfl (argsL := []) (rest := []) (lenOf pd_1 rfl) rfl (W := 0) (Nat.le_of_eq rfl) rfl (fun hn9 => Met.back (rm := R_m_hasMore) (m_hasMore hw b85 (2 : Int32) (2 : Int32) F2_b85 F3_b85) hn9 C.hZ (hw _ (List.mem_of_getElem? (i := 32) rfl)) (hw _ (List.mem_of_getElem? (i := 2) rfl)) (by decide) (by decide)) (k' := 4) (n' := 17) rfl rfl (by decide) (by decide) ?_
  rintro _ _ ⟨rfl, rfl⟩
  show Go w l _ n0 _ h87 4 17 255 #[.val (.int p0), .val (.int p1), .val (.int p2), .val (.int p3), .val (.int (0 : Int32)), .val (.int k0), .val (.int k1), .val (.int (0 : Int32)), .val (.int (0 : Int32)), .val (.int (0 : Int32)), .val (.int (0 : Int32)), .val (.int (2 : Int32)), .val (.ref b80), .val (.int (2 : Int32)), .val (.ref b85), .val (.int (1 : Int32)), .val (.ref sq)] [(.int (0 : Int32))]
  refine g_iload C at_255 (pc' := 257) rfl rfl ?_
  refine g_icmp_ne C at_257 (by decide) (pc' := 264) (by decide) (pcN := 260) rfl (fun q => absurd rfl q) (fun _ => ?_)
  refine g_iconst C (z := (1 : Int32)) at_260 (pc' := 261) rfl rfl ?_
  refine g_goto C at_261 (by decide) (pc' := 265) (by decide) ?_
  refine g_istore C at_265 (pc' := 267) rfl (Ls' := #[.val (.int p0), .val (.int p1), .val (.int p2), .val (.int p3), .val (.int (0 : Int32)), .val (.int k0), .val (.int k1), .val (.int (0 : Int32)), .val (.int (0 : Int32)), .val (.int (0 : Int32)), .val (.int (0 : Int32)), .val (.int (2 : Int32)), .val (.ref b80), .val (.int (2 : Int32)), .val (.ref b85), .val (.int (1 : Int32)), .val (.ref sq)]) rfl ?_
  refine g_iload C at_267 (pc' := 269) rfl rfl ?_
  refine g_if_eq C at_269 (by decide) (pc' := 294) (by decide) (pcN := 272) rfl (fun q => absurd q (by decide)) (fun _ => ?_)
  refine g_aload C at_272 (pc' := 274) rfl rfl rfl ?_
  refine g_virtual (rm := R_m_hasMore) (a := sq) C (y := (⟨"com/example/sigillum/sigillum/codec/DerReader", "hasMore", "()Z"⟩ : MethodName)) (y' := (⟨"com/example/sigillum/sigillum/codec/DerReader", "hasMore", "()Z"⟩ : MethodName)) (hw _ (List.mem_of_getElem? (i := 28) rfl)) (hw _ (List.mem_of_getElem? (i := 29) rfl)) (g_nf C (hw _ (List.mem_of_getElem? (i := 31) rfl))) (hw _ (List.mem_of_getElem? (i := 31) rfl)) (hw _ (List.mem_of_getElem? (i := 30) rfl)) (by decide) E_sq at_274 (pc' := 277) rfl (argsL := []) (rest := []) (lenOf pd_1 rfl) rfl (W := 0) (Nat.le_of_eq rfl) rfl (fun hn9 => Met.back (rm := R_m_hasMore) (m_hasMore hw sq (2 : Int32) (2 : Int32) F2_sq F3_sq) hn9 C.hZ (hw _ (List.mem_of_getElem? (i := 32) rfl)) (hw _ (List.mem_of_getElem? (i := 2) rfl)) (by decide) (by decide)) (k' := 4) (n' := 17) rfl rfl (by decide) (by decide) ?_
  rintro _ _ ⟨rfl, rfl⟩
  show Go w l _ n0 _ h87 4 17 277 #[.val (.int p0), .val (.int p1), .val (.int p2), .val (.int p3), .val (.int (0 : Int32)), .val (.int k0), .val (.int k1), .val (.int (0 : Int32)), .val (.int (0 : Int32)), .val (.int (0 : Int32)), .val (.int (0 : Int32)), .val (.int (2 : Int32)), .val (.ref b80), .val (.int (2 : Int32)), .val (.ref b85), .val (.int (1 : Int32)), .val (.ref sq)] [(.int (0 : Int32))]
  refine g_iload C at_277 (pc' := 279) rfl rfl ?_
  refine g_if_le C at_279 (by decide) (pc' := 286) (by decide) (pcN := 282) rfl (fun _ => ?_) (fun q => absurd q (by decide))
  refine g_iconst C (z := (0 : Int32)) at_286 (pc' := 287) rfl rfl ?_
  refine g_icmp_ne C at_287 (by decide) (pc' := 294) (by decide) (pcN := 290) rfl (fun q => absurd rfl q) (fun _ => ?_)
  refine g_iconst C (z := (1 : Int32)) at_290 (pc' := 291) rfl rfl ?_
  refine g_goto C at_291 (by decide) (pc' := 295) (by decide) ?_
  refine g_istore C at_295 (pc' := 297) rfl (Ls' := #[.val (.int p0), .val (.int p1), .val (.int p2), .val (.int p3), .val (.int (0 : Int32)), .val (.int k0), .val (.int k1), .val (.int (0 : Int32)), .val (.int (0 : Int32)), .val (.int (0 : Int32)), .val (.int (0 : Int32)), .val (.int (2 : Int32)), .val (.ref b80), .val (.int (2 : Int32)), .val (.ref b85), .val (.int (1 : Int32)), .val (.ref sq)]) rfl ?_
  refine g_iload C at_297 (pc' := 299) rfl rfl ?_
  refine g_if_le C at_299 (by decide) (pc' := 340) (by decide) (pcN := 302) rfl (fun _ => ?_) (fun q => absurd q (by decide))
  refine g_iload C at_340 (pc' := 342) rfl rfl ?_
  refine g_iconst C (z := (1 : Int32)) at_342 (pc' := 343) rfl rfl ?_
  refine g_icmp_le C at_343 (by decide) (pc' := 373) (by decide) (pcN := 346) rfl (fun _ => ?_) (fun q => absurd q (by decide))
  refine g_iload C at_373 (pc' := 375) rfl rfl ?_
  exact g_retN C (t := .boolean) rfl (by simp) at_375 rfl (by decide) (by decide)
set_option maxRecDepth 65536 in
set_option maxHeartbeats 40000000 in
theorem seg82_01 {l : Launch} {Z : State} {a0 : Array Value} (hw : ∀ d ∈ tables_1, d.before a0 Z = true) {w : Wk} {n0 : Nat} {h0 : Heap} {Y : State → Outcome → Prop} (p0 p1 p2 p3 k0 k1 : Int32) (t_SEQUENCE t_NULL t_OCTET_STRING : Addr) (C : Cx w Z "com/example/sigillum/sigillum/codec/DerReaderHasMorePinLaw" code 17 (some .boolean) "law" room_1 n0 (fun v _ => v = some (.int 1)) Y) (X : Old Z n0 h0) (S_SEQUENCE : Sta Z Z.heap "com/example/sigillum/sigillum/codec/DerTag" "SEQUENCE" "Lcom/example/sigillum/sigillum/codec/DerTag;" (.ref t_SEQUENCE)) (E_SEQUENCE : Exa Z h0 t_SEQUENCE "com/example/sigillum/sigillum/codec/DerTag") (F_SEQUENCE : Fld Z h0 t_SEQUENCE "com/example/sigillum/sigillum/codec/DerTag" "identifier" "I" (.int 48)) (S_NULL : Sta Z Z.heap "com/example/sigillum/sigillum/codec/DerTag" "NULL" "Lcom/example/sigillum/sigillum/codec/DerTag;" (.ref t_NULL)) (E_NULL : Exa Z h0 t_NULL "com/example/sigillum/sigillum/codec/DerTag") (F_NULL : Fld Z h0 t_NULL "com/example/sigillum/sigillum/codec/DerTag" "identifier" "I" (.int 5)) (S_OCTET_STRING : Sta Z Z.heap "com/example/sigillum/sigillum/codec/DerTag" "OCTET_STRING" "Lcom/example/sigillum/sigillum/codec/DerTag;" (.ref t_OCTET_STRING)) (E_OCTET_STRING : Exa Z h0 t_OCTET_STRING "com/example/sigillum/sigillum/codec/DerTag") (F_OCTET_STRING : Fld Z h0 t_OCTET_STRING "com/example/sigillum/sigillum/codec/DerTag" "identifier" "I" (.int 4)) :
    Go w l room_1 n0 Y h0 0 0 82 #[.val (.int p0), .val (.int p1), .val (.int p2), .val (.int p3), .val (.int (0 : Int32)), .val (.int k0), .val (.int k1), .val (.int (1 : Int32)), .unset, .unset, .unset, .unset, .unset, .unset, .unset, .unset, .unset] [] := by
  refine g_iload C at_82 (pc' := 84) rfl rfl ?_
  refine g_if_le C at_84 (by decide) (pc' := 100) (by decide) (pcN := 87) rfl (fun _ => ?_) (fun q => absurd q (by decide))
  refine g_iconst C (z := (0 : Int32)) at_100 (pc' := 101) rfl rfl ?_
  refine g_istore C at_101 (pc' := 103) rfl (Ls' := #[.val (.int p0), .val (.int p1), .val (.int p2), .val (.int p3), .val (.int (0 : Int32)), .val (.int k0), .val (.int k1), .val (.int (1 : Int32)), .val (.int (0 : Int32)), .unset, .unset, .unset, .unset, .unset, .unset, .unset, .unset]) rfl ?_
  refine g_iload C at_103 (pc' := 105) rfl rfl ?_
  refine g_iconst C (z := (1 : Int32)) at_105 (pc' := 106) rfl rfl ?_
  refine g_icmp_le C at_106 (by decide) (pc' := 122) (by decide) (pcN := 109) rfl (fun _ => ?_) (fun q => absurd q (by decide))
  refine g_iconst C (z := (0 : Int32)) at_122 (pc' := 123) rfl rfl ?_
  refine g_istore C at_123 (pc' := 125) rfl (Ls' := #[.val (.int p0), .val (.int p1), .val (.int p2), .val (.int p3), .val (.int (0 : Int32)), .val (.int k0), .val (.int k1), .val (.int (1 : Int32)), .val (.int (0 : Int32)), .val (.int (0 : Int32)), .unset, .unset, .unset, .unset, .unset, .unset, .unset]) rfl ?_
  refine g_iload C at_125 (pc' := 127) rfl rfl ?_
  refine g_iload C at_127 (pc' := 129) rfl rfl ?_
  refine g_iadd C at_129 (pc' := 130) rfl ?_
  show Go w l _ n0 _ h0 0 0 130 #[.val (.int p0), .val (.int p1), .val (.int p2), .val (.int p3), .val (.int (0 : Int32)), .val (.int k0), .val (.int k1), .val (.int (1 : Int32)), .val (.int (0 : Int32)), .val (.int (0 : Int32)), .unset, .unset, .unset, .unset, .unset, .unset, .unset] [(.int (0 : Int32))]
  refine g_istore C at_130 (pc' := 132) rfl (Ls' := #[.val (.int p0), .val (.int p1), .val (.int p2), .val (.int p3), .val (.int (0 : Int32)), .val (.int k0), .val (.int k1), .val (.int (1 : Int32)), .val (.int (0 : Int32)), .val (.int (0 : Int32)), .val (.int (0 : Int32)), .unset, .unset, .unset, .unset, .unset, .unset]) rfl ?_
  refine g_iconst C (z := (2 : Int32)) at_132 (pc' := 133) rfl rfl ?_
  refine g_iload C at_133 (pc' := 135) rfl rfl ?_
  refine g_iadd C at_135 (pc' := 136) rfl ?_
  show Go w l _ n0 _ h0 0 0 136 #[.val (.int p0), .val (.int p1), .val (.int p2), .val (.int p3), .val (.int (0 : Int32)), .val (.int k0), .val (.int k1), .val (.int (1 : Int32)), .val (.int (0 : Int32)), .val (.int (0 : Int32)), .val (.int (0 : Int32)), .unset, .unset, .unset, .unset, .unset, .unset] [(.int (2 : Int32))]
  refine g_iload C at_136 (pc' := 138) rfl rfl ?_
  refine g_if_eq C at_138 (by decide) (pc' := 145) (by decide) (pcN := 141) rfl (fun q => absurd q (by decide)) (fun _ => ?_)
  refine g_iconst C (z := (1 : Int32)) at_141 (pc' := 142) rfl rfl ?_
  refine g_goto C at_142 (by decide) (pc' := 146) (by decide) ?_
  refine g_iadd C at_146 (pc' := 147) rfl ?_
  show Go w l _ n0 _ h0 0 0 147 #[.val (.int p0), .val (.int p1), .val (.int p2), .val (.int p3), .val (.int (0 : Int32)), .val (.int k0), .val (.int k1), .val (.int (1 : Int32)), .val (.int (0 : Int32)), .val (.int (0 : Int32)), .val (.int (0 : Int32)), .unset, .unset, .unset, .unset, .unset, .unset] [(.int (3 : Int32))]
  refine g_istore C at_147 (pc' := 149) rfl (Ls' := #[.val (.int p0), .val (.int p1), .val (.int p2), .val (.int p3), .val (.int (0 : Int32)), .val (.int k0), .val (.int k1), .val (.int (1 : Int32)), .val (.int (0 : Int32)), .val (.int (0 : Int32)), .val (.int (0 : Int32)), .val (.int (3 : Int32)), .unset, .unset, .unset, .unset, .unset]) rfl ?_
  refine g_iload C at_149 (pc' := 151) rfl rfl ?_
  refine g_newarr C (ad := "[B") (cap := 3) (hw _ (List.mem_of_getElem? (i := 3) rfl)) at_151 (pc' := 153) rfl rfl (by decide) (by decide) (by decide) (k' := 1) (n' := 3) rfl rfl (by decide) (by decide) rfl ?_
  intro h88 b88 E88 fb88 gb88 A88
  have ne_t_SEQUENCE_b88 : t_SEQUENCE ≠ b88 := Nat.ne_of_lt (Nat.lt_of_lt_of_le E_SEQUENCE.lt fb88)
  have ne_t_NULL_b88 : t_NULL ≠ b88 := Nat.ne_of_lt (Nat.lt_of_lt_of_le E_NULL.lt fb88)
  have ne_t_OCTET_STRING_b88 : t_OCTET_STRING ≠ b88 := Nat.ne_of_lt (Nat.lt_of_lt_of_le E_OCTET_STRING.lt fb88)
  have X := X.ext E88
  have E_SEQUENCE := E_SEQUENCE.ext E88
  have F_SEQUENCE := F_SEQUENCE.ext E88
  have E_NULL := E_NULL.ext E88
  have F_NULL := F_NULL.ext E88
  have E_OCTET_STRING := E_OCTET_STRING.ext E88
  have F_OCTET_STRING := F_OCTET_STRING.ext E88
  have A88 : Arf Z h88 b88 "[B" .byte (3 : Int32) (fun _ => (.int 0)) := A88
  refine g_astore C at_153 (pc' := 155) rfl rfl (Ls' := #[.val (.int p0), .val (.int p1), .val (.int p2), .val (.int p3), .val (.int (0 : Int32)), .val (.int k0), .val (.int k1), .val (.int (1 : Int32)), .val (.int (0 : Int32)), .val (.int (0 : Int32)), .val (.int (0 : Int32)), .val (.int (3 : Int32)), .val (.ref b88), .unset, .unset, .unset, .unset]) rfl ?_
  refine g_aload C at_155 (pc' := 157) rfl rfl rfl ?_
  refine g_iconst C (z := (0 : Int32)) at_157 (pc' := 158) rfl rfl ?_
  refine g_bipush C (z := (48 : Int32)) at_158 (pc' := 160) rfl rfl ?_
  refine g_bastore C A88 (by decide) (by decide) at_160 (pc' := 161) rfl gb88 (fun h89 W90 A88' => ?_)
  have X := X.wr W90 gb88
  have E_SEQUENCE := E_SEQUENCE.wr W90
  have F_SEQUENCE := F_SEQUENCE.other W90 (Or.inl ne_t_SEQUENCE_b88)
  have E_NULL := E_NULL.wr W90
  have F_NULL := F_NULL.other W90 (Or.inl ne_t_NULL_b88)
  have E_OCTET_STRING := E_OCTET_STRING.wr W90
  have F_OCTET_STRING := F_OCTET_STRING.other W90 (Or.inl ne_t_OCTET_STRING_b88)
  have A88 : Arf Z h89 b88 "[B" .byte (3 : Int32) (upd (fun _ => (.int 0)) 0 (.int (48 : Int32))) := A88'
  refine g_aload C at_161 (pc' := 163) rfl rfl rfl ?_
  refine g_iconst C (z := (1 : Int32)) at_163 (pc' := 164) rfl rfl ?_
  refine g_iload C at_164 (pc' := 166) rfl rfl ?_
  refine g_i2b C at_166 (pc' := 167) rfl ?_
  show Go w l _ n0 _ h89 1 3 167 #[.val (.int p0), .val (.int p1), .val (.int p2), .val (.int p3), .val (.int (0 : Int32)), .val (.int k0), .val (.int k1), .val (.int (1 : Int32)), .val (.int (0 : Int32)), .val (.int (0 : Int32)), .val (.int (0 : Int32)), .val (.int (3 : Int32)), .val (.ref b88), .unset, .unset, .unset, .unset] [(.int (0 : Int32)), (.int (1 : Int32)), (.ref b88)]
  refine g_bastore C A88 (by decide) (by decide) at_167 (pc' := 168) rfl gb88 (fun h91 W92 A88' => ?_)
  have X := X.wr W92 gb88
  have E_SEQUENCE := E_SEQUENCE.wr W92
  have F_SEQUENCE := F_SEQUENCE.other W92 (Or.inl ne_t_SEQUENCE_b88)
  have E_NULL := E_NULL.wr W92
  have F_NULL := F_NULL.other W92 (Or.inl ne_t_NULL_b88)
  have E_OCTET_STRING := E_OCTET_STRING.wr W92
  have F_OCTET_STRING := F_OCTET_STRING.other W92 (Or.inl ne_t_OCTET_STRING_b88)
  have A88 : Arf Z h91 b88 "[B" .byte (3 : Int32) (upd (upd (fun _ => (.int 0)) 0 (.int (48 : Int32))) 1 (.int (0 : Int32))) := A88'
  refine g_iconst C (z := (2 : Int32)) at_168 (pc' := 169) rfl rfl ?_
  refine g_istore C at_169 (pc' := 171) rfl (Ls' := #[.val (.int p0), .val (.int p1), .val (.int p2), .val (.int p3), .val (.int (0 : Int32)), .val (.int k0), .val (.int k1), .val (.int (1 : Int32)), .val (.int (0 : Int32)), .val (.int (0 : Int32)), .val (.int (0 : Int32)), .val (.int (3 : Int32)), .val (.ref b88), .val (.int (2 : Int32)), .unset, .unset, .unset]) rfl ?_
  refine g_iload C at_171 (pc' := 173) rfl rfl ?_
  refine g_if_le C at_173 (by decide) (pc' := 189) (by decide) (pcN := 176) rfl (fun _ => ?_) (fun q => absurd q (by decide))
  refine g_iload C at_189 (pc' := 191) rfl rfl ?_
  refine g_iconst C (z := (1 : Int32)) at_191 (pc' := 192) rfl rfl ?_
  refine g_icmp_le C at_192 (by decide) (pc' := 208) (by decide) (pcN := 195) rfl (fun _ => ?_) (fun q => absurd q (by decide))
  refine g_iload C at_208 (pc' := 210) rfl rfl ?_
  refine g_if_eq C at_210 (by decide) (pc' := 220) (by decide) (pcN := 213) rfl (fun q => absurd q (by decide)) (fun _ => ?_)
  refine g_aload C at_213 (pc' := 215) rfl rfl rfl ?_
  refine g_iload C at_215 (pc' := 217) rfl rfl ?_
  refine g_iloadN C at_217 (pc' := 218) rfl rfl ?_
  refine g_i2b C at_218 (pc' := 219) rfl ?_
  refine g_bastore C A88 (by decide) (by decide) at_219 (pc' := 220) rfl gb88 (fun h93 W94 A88' => ?_)
  have X := X.wr W94 gb88
  have E_SEQUENCE := E_SEQUENCE.wr W94
  have F_SEQUENCE := F_SEQUENCE.other W94 (Or.inl ne_t_SEQUENCE_b88)
  have E_NULL := E_NULL.wr W94
  have F_NULL := F_NULL.other W94 (Or.inl ne_t_NULL_b88)
  have E_OCTET_STRING := E_OCTET_STRING.wr W94
  have F_OCTET_STRING := F_OCTET_STRING.other W94 (Or.inl ne_t_OCTET_STRING_b88)
  have A88 : Arf Z h93 b88 "[B" .byte (3 : Int32) (upd (upd (upd (fun _ => (.int 0)) 0 (.int (48 : Int32))) 1 (.int (0 : Int32))) 2 (.int (nar .byte (p3.toInt8.toInt32)))) := A88'
  refine g_new C (hw _ (List.mem_of_getElem? (i := 0) rfl)) (hw _ (List.mem_of_getElem? (i := 1) rfl)) (hw _ (List.mem_of_getElem? (i := 2) rfl)) at_220 (pc' := 223) rfl (k' := 2) (n' := 6) rfl rfl (by decide) (by decide) ?_
  intro h95 b95 E95 fb95 gb95 A95 D95
  have ne_t_SEQUENCE_b95 : t_SEQUENCE ≠ b95 := Nat.ne_of_lt (Nat.lt_of_lt_of_le E_SEQUENCE.lt fb95)
  have ne_t_NULL_b95 : t_NULL ≠ b95 := Nat.ne_of_lt (Nat.lt_of_lt_of_le E_NULL.lt fb95)
  have ne_t_OCTET_STRING_b95 : t_OCTET_STRING ≠ b95 := Nat.ne_of_lt (Nat.lt_of_lt_of_le E_OCTET_STRING.lt fb95)
  have ne_b88_b95 : b88 ≠ b95 := Nat.ne_of_lt (Nat.lt_of_lt_of_le A88.lt fb95)
  have X := X.ext E95
  have E_SEQUENCE := E_SEQUENCE.ext E95
  have F_SEQUENCE := F_SEQUENCE.ext E95
  have E_NULL := E_NULL.ext E95
  have F_NULL := F_NULL.ext E95
  have E_OCTET_STRING := E_OCTET_STRING.ext E95
  have F_OCTET_STRING := F_OCTET_STRING.ext E95
  have A88 := A88.ext E95
  have F95_der : Fld Z h95 b95 "com/example/sigillum/sigillum/codec/DerReader" "der" "[B" .null := D95 (Or.inr (hw _ (List.mem_of_getElem? (i := 23) rfl))) (ty := (.array .byte)) (by decide)
  have F95_position : Fld Z h95 b95 "com/example/sigillum/sigillum/codec/DerReader" "position" "I" (.int (0 : Int32)) := D95 (Or.inl (hw _ (List.mem_of_getElem? (i := 25) rfl))) (ty := .int) (by decide)
  have F95_end : Fld Z h95 b95 "com/example/sigillum/sigillum/codec/DerReader" "end" "I" (.int (0 : Int32)) := D95 (Or.inr (hw _ (List.mem_of_getElem? (i := 27) rfl))) (ty := .int) (by decide)
  refine g_dup C at_223 (pc' := 224) rfl rfl ?_
  refine g_aload C at_224 (pc' := 226) rfl rfl rfl ?_
  refine g_special (rm := R_m_init1) (a := b95) C (y := (⟨"com/example/sigillum/sigillum/codec/DerReader", "<init>", "([B)V"⟩ : MethodName)) rfl (hw _ (List.mem_of_getElem? (i := 4) rfl)) (hw _ (List.mem_of_getElem? (i := 5) rfl)) (hw _ (List.mem_of_getElem? (i := 6) rfl)) (by decide) at_226 (pc' := 229) rfl (argsL := [(.ref b88)]) (rest := [(.ref b95)]) (lenOf pd_10 rfl) rfl (W := 1) (Nat.le_of_eq rfl) rfl (fun hn9 => Met.back (rm := R_m_init1) (m_init1 hw b95 b88 (3 : Int32) (upd (upd (upd (fun _ => (.int 0)) 0 (.int (48 : Int32))) 1 (.int (0 : Int32))) 2 (.int (nar .byte (p3.toInt8.toInt32)))) ⟨A95, F95_der, F95_position, F95_end⟩ A88 (by decide) gb95) hn9 C.hZ (hw _ (List.mem_of_getElem? (i := 6) rfl)) (hw _ (List.mem_of_getElem? (i := 2) rfl)) (by decide) (by decide)) (k' := 3) (n' := 15) rfl rfl (by decide) (by decide) ?_
  rintro _ h96 ⟨rfl, Ki, t_b95, ft_b95, gt_b95, ⟨E_b95, F1_b95, F2_b95, F3_b95⟩, At_b95⟩
  have ne_t_SEQUENCE_t_b95 : t_SEQUENCE ≠ t_b95 := Nat.ne_of_lt (Nat.lt_of_lt_of_le E_SEQUENCE.lt ft_b95)
  have ne_t_NULL_t_b95 : t_NULL ≠ t_b95 := Nat.ne_of_lt (Nat.lt_of_lt_of_le E_NULL.lt ft_b95)
  have ne_t_OCTET_STRING_t_b95 : t_OCTET_STRING ≠ t_b95 := Nat.ne_of_lt (Nat.lt_of_lt_of_le E_OCTET_STRING.lt ft_b95)
  have ne_b88_t_b95 : b88 ≠ t_b95 := Nat.ne_of_lt (Nat.lt_of_lt_of_le A88.lt ft_b95)
  have ne_b95_t_b95 : b95 ≠ t_b95 := Nat.ne_of_lt (Nat.lt_of_lt_of_le A95.lt ft_b95)
  have X := X.keep Ki (allS gb95 all0)
  have E_SEQUENCE := E_SEQUENCE.keep Ki
  have F_SEQUENCE := F_SEQUENCE.keep Ki (ninS ne_t_SEQUENCE_b95 nin0)
  have E_NULL := E_NULL.keep Ki
  have F_NULL := F_NULL.keep Ki (ninS ne_t_NULL_b95 nin0)
  have E_OCTET_STRING := E_OCTET_STRING.keep Ki
  have F_OCTET_STRING := F_OCTET_STRING.keep Ki (ninS ne_t_OCTET_STRING_b95 nin0)
  have A88 := A88.keep Ki (ninS ne_b88_b95 nin0)
  have A95 := A95.keep Ki
  show Go w l _ n0 _ h96 3 15 229 #[.val (.int p0), .val (.int p1), .val (.int p2), .val (.int p3), .val (.int (0 : Int32)), .val (.int k0), .val (.int k1), .val (.int (1 : Int32)), .val (.int (0 : Int32)), .val (.int (0 : Int32)), .val (.int (0 : Int32)), .val (.int (3 : Int32)), .val (.ref b88), .val (.int (2 : Int32)), .unset, .unset, .unset] [(.ref b95)]
  refine g_astore C at_229 (pc' := 231) rfl rfl (Ls' := #[.val (.int p0), .val (.int p1), .val (.int p2), .val (.int p3), .val (.int (0 : Int32)), .val (.int k0), .val (.int k1), .val (.int (1 : Int32)), .val (.int (0 : Int32)), .val (.int (0 : Int32)), .val (.int (0 : Int32)), .val (.int (3 : Int32)), .val (.ref b88), .val (.int (2 : Int32)), .val (.ref b95), .unset, .unset]) rfl ?_
  refine g_aload C at_231 (pc' := 233) rfl rfl rfl ?_
  refine g_virtual (rm := R_m_hasMore) (a := b95) C (y := (⟨"com/example/sigillum/sigillum/codec/DerReader", "hasMore", "()Z"⟩ : MethodName)) (y' := (⟨"com/example/sigillum/sigillum/codec/DerReader", "hasMore", "()Z"⟩ : MethodName)) (hw _ (List.mem_of_getElem? (i := 28) rfl)) (hw _ (List.mem_of_getElem? (i := 29) rfl)) (g_nf C (hw _ (List.mem_of_getElem? (i := 31) rfl))) (hw _ (List.mem_of_getElem? (i := 31) rfl)) (hw _ (List.mem_of_getElem? (i := 30) rfl)) (by decide) E_b95 at_233 (pc' := 236) rfl (argsL := []) (rest := []) (lenOf pd_1 rfl) rfl (W := 0) (Nat.le_of_eq rfl) rfl (fun hn9 => Met.back (rm := R_m_hasMore) (m_hasMore hw b95 (0 : Int32) (3 : Int32) F2_b95 F3_b95) hn9 C.hZ (hw _ (List.mem_of_getElem? (i := 32) rfl)) (hw _ (List.mem_of_getElem? (i := 2) rfl)) (by decide) (by decide)) (k' := 3) (n' := 15) rfl rfl (by decide) (by decide) ?_
  rintro _ _ ⟨rfl, rfl⟩
  show Go w l _ n0 _ h96 3 15 236 #[.val (.int p0), .val (.int p1), .val (.int p2), .val (.int p3), .val (.int (0 : Int32)), .val (.int k0), .val (.int k1), .val (.int (1 : Int32)), .val (.int (0 : Int32)), .val (.int (0 : Int32)), .val (.int (0 : Int32)), .val (.int (3 : Int32)), .val (.ref b88), .val (.int (2 : Int32)), .val (.ref b95), .unset, .unset] [(.int (1 : Int32))]
  refine g_istore C at_236 (pc' := 238) rfl (Ls' := #[.val (.int p0), .val (.int p1), .val (.int p2), .val (.int p3), .val (.int (0 : Int32)), .val (.int k0), .val (.int k1), .val (.int (1 : Int32)), .val (.int (0 : Int32)), .val (.int (0 : Int32)), .val (.int (0 : Int32)), .val (.int (3 : Int32)), .val (.ref b88), .val (.int (2 : Int32)), .val (.ref b95), .val (.int (1 : Int32)), .unset]) rfl ?_
  refine g_aload C at_238 (pc' := 240) rfl rfl rfl ?_
  refine g_virtual (rm := R_m_seq) (a := b95) C (y := (⟨"com/example/sigillum/sigillum/codec/DerReader", "sequence", "()Lcom/example/sigillum/sigillum/codec/DerReader;"⟩ : MethodName)) (y' := (⟨"com/example/sigillum/sigillum/codec/DerReader", "sequence", "()Lcom/example/sigillum/sigillum/codec/DerReader;"⟩ : MethodName)) (hw _ (List.mem_of_getElem? (i := 33) rfl)) (hw _ (List.mem_of_getElem? (i := 34) rfl)) (g_nf C (hw _ (List.mem_of_getElem? (i := 36) rfl))) (hw _ (List.mem_of_getElem? (i := 36) rfl)) (hw _ (List.mem_of_getElem? (i := 35) rfl)) (by decide) E_b95 at_240 (pc' := 243) rfl (argsL := []) (rest := []) (lenOf pd_11 rfl) rfl (W := 0) (Nat.le_of_eq rfl) rfl (fun hn9 => Met.back (rm := R_m_seq) (m_seq hw b95 t_b95 t_SEQUENCE (0 : Int32) (3 : Int32) (3 : Int32) (48 : Int32) (0 : Int32) (0 : Int32) (48 : Int32) (2 : Int32) (upd (upd (upd (fun _ => (.int 0)) 0 (.int (48 : Int32))) 1 (.int (0 : Int32))) 2 (.int (nar .byte (p3.toInt8.toInt32)))) (2 : Int32) ⟨E_b95, F1_b95, F2_b95, F3_b95⟩ At_b95 E_SEQUENCE F_SEQUENCE gb95 (Ne.symm ne_b95_t_b95) (by decide) (by decide) (by decide) rfl (by decide) (by decide) (by decide) (by decide) rfl (by decide) (by decide) (by decide) (by decide) (by decide) (S_SEQUENCE.ext X.2)) hn9 C.hZ (hw _ (List.mem_of_getElem? (i := 37) rfl)) (hw _ (List.mem_of_getElem? (i := 2) rfl)) (by decide) (by decide)) (k' := 4) (n' := 18) rfl rfl (by decide) (by decide) ?_
  rintro _ h97 ⟨sq, rfl, fsq, gsq, Ks, ⟨E_b95, F1_b95, F2_b95, F3_b95⟩, ⟨E_sq, F1_sq, F2_sq, F3_sq⟩⟩
  have ne_t_SEQUENCE_sq : t_SEQUENCE ≠ sq := Nat.ne_of_lt (Nat.lt_of_lt_of_le E_SEQUENCE.lt fsq)
  have ne_t_NULL_sq : t_NULL ≠ sq := Nat.ne_of_lt (Nat.lt_of_lt_of_le E_NULL.lt fsq)
  have ne_t_OCTET_STRING_sq : t_OCTET_STRING ≠ sq := Nat.ne_of_lt (Nat.lt_of_lt_of_le E_OCTET_STRING.lt fsq)
  have ne_b88_sq : b88 ≠ sq := Nat.ne_of_lt (Nat.lt_of_lt_of_le A88.lt fsq)
  have ne_t_b95_sq : t_b95 ≠ sq := Nat.ne_of_lt (Nat.lt_of_lt_of_le At_b95.lt fsq)
  have X := X.keep Ks (allS gb95 all0)
  have E_SEQUENCE := E_SEQUENCE.keep Ks
  have F_SEQUENCE := F_SEQUENCE.keep Ks (ninS ne_t_SEQUENCE_b95 nin0)
  have E_NULL := E_NULL.keep Ks
  have F_NULL := F_NULL.keep Ks (ninS ne_t_NULL_b95 nin0)
  have E_OCTET_STRING := E_OCTET_STRING.keep Ks
  have F_OCTET_STRING := F_OCTET_STRING.keep Ks (ninS ne_t_OCTET_STRING_b95 nin0)
  have A88 := A88.keep Ks (ninS ne_b88_b95 nin0)
  have At_b95 := At_b95.keep Ks (ninS (Ne.symm ne_b95_t_b95) nin0)
  show Go w l _ n0 _ h97 4 18 243 #[.val (.int p0), .val (.int p1), .val (.int p2), .val (.int p3), .val (.int (0 : Int32)), .val (.int k0), .val (.int k1), .val (.int (1 : Int32)), .val (.int (0 : Int32)), .val (.int (0 : Int32)), .val (.int (0 : Int32)), .val (.int (3 : Int32)), .val (.ref b88), .val (.int (2 : Int32)), .val (.ref b95), .val (.int (1 : Int32)), .unset] [(.ref sq)]
  refine g_astore C at_243 (pc' := 245) rfl rfl (Ls' := #[.val (.int p0), .val (.int p1), .val (.int p2), .val (.int p3), .val (.int (0 : Int32)), .val (.int k0), .val (.int k1), .val (.int (1 : Int32)), .val (.int (0 : Int32)), .val (.int (0 : Int32)), .val (.int (0 : Int32)), .val (.int (3 : Int32)), .val (.ref b88), .val (.int (2 : Int32)), .val (.ref b95), .val (.int (1 : Int32)), .val (.ref sq)]) rfl ?_
  refine g_iload C at_245 (pc' := 247) rfl rfl ?_
  refine g_if_eq C at_247 (by decide) (pc' := 264) (by decide) (pcN := 250) rfl (fun q => absurd q (by decide)) (fun _ => ?_)
  refine g_aload C at_250 (pc' := 252) rfl rfl rfl ?_
  refine g_virtual (rm := R_m_hasMore) (a := b95) C (y := (⟨"com/example/sigillum/sigillum/codec/DerReader", "hasMore", "()Z"⟩ : MethodName)) (y' := (⟨"com/example/sigillum/sigillum/codec/DerReader", "hasMore", "()Z"⟩ : MethodName)) (hw _ (List.mem_of_getElem? (i := 28) rfl)) (hw _ (List.mem_of_getElem? (i := 29) rfl)) (g_nf C (hw _ (List.mem_of_getElem? (i := 31) rfl))) (hw _ (List.mem_of_getElem? (i := 31) rfl)) (hw _ (List.mem_of_getElem? (i := 30) rfl)) (by decide) E_b95 at_252 (pc' := 255) rfl (argsL := []) (rest := []) (lenOf pd_1 rfl) rfl (W := 0) (Nat.le_of_eq rfl) rfl (fun hn9 => Met.back (rm := R_m_hasMore) (m_hasMore hw b95 (2 : Int32) (3 : Int32) F2_b95 F3_b95) hn9 C.hZ (hw _ (List.mem_of_getElem? (i := 32) rfl)) (hw _ (List.mem_of_getElem? (i := 2) rfl)) (by decide) (by decide)) (k' := 4) (n' := 18) rfl rfl (by decide) (by decide) ?_
  rintro _ _ ⟨rfl, rfl⟩
  show Go w l _ n0 _ h97 4 18 255 #[.val (.int p0), .val (.int p1), .val (.int p2), .val (.int p3), .val (.int (0 : Int32)), .val (.int k0), .val (.int k1), .val (.int (1 : Int32)), .val (.int (0 : Int32)), .val (.int (0 : Int32)), .val (.int (0 : Int32)), .val (.int (3 : Int32)), .val (.ref b88), .val (.int (2 : Int32)), .val (.ref b95), .val (.int (1 : Int32)), .val (.ref sq)] [(.int (1 : Int32))]
  refine g_iload C at_255 (pc' := 257) rfl rfl ?_
  refine g_icmp_ne C at_257 (by decide) (pc' := 264) (by decide) (pcN := 260) rfl (fun q => absurd rfl q) (fun _ => ?_)
  refine g_iconst C (z := (1 : Int32)) at_260 (pc' := 261) rfl rfl ?_
  refine g_goto C at_261 (by decide) (pc' := 265) (by decide) ?_
  refine g_istore C at_265 (pc' := 267) rfl (Ls' := #[.val (.int p0), .val (.int p1), .val (.int p2), .val (.int p3), .val (.int (0 : Int32)), .val (.int k0), .val (.int k1), .val (.int (1 : Int32)), .val (.int (0 : Int32)), .val (.int (0 : Int32)), .val (.int (0 : Int32)), .val (.int (3 : Int32)), .val (.ref b88), .val (.int (2 : Int32)), .val (.ref b95), .val (.int (1 : Int32)), .val (.ref sq)]) rfl ?_
  refine g_iload C at_267 (pc' := 269) rfl rfl ?_
  refine g_if_eq C at_269 (by decide) (pc' := 294) (by decide) (pcN := 272) rfl (fun q => absurd q (by decide)) (fun _ => ?_)
  refine g_aload C at_272 (pc' := 274) rfl rfl rfl ?_
  refine g_virtual (rm := R_m_hasMore) (a := sq) C (y := (⟨"com/example/sigillum/sigillum/codec/DerReader", "hasMore", "()Z"⟩ : MethodName)) (y' := (⟨"com/example/sigillum/sigillum/codec/DerReader", "hasMore", "()Z"⟩ : MethodName)) (hw _ (List.mem_of_getElem? (i := 28) rfl)) (hw _ (List.mem_of_getElem? (i := 29) rfl)) (g_nf C (hw _ (List.mem_of_getElem? (i := 31) rfl))) (hw _ (List.mem_of_getElem? (i := 31) rfl)) (hw _ (List.mem_of_getElem? (i := 30) rfl)) (by decide) E_sq at_274 (pc' := 277) rfl (argsL := []) (rest := []) (lenOf pd_1 rfl) rfl (W := 0) (Nat.le_of_eq rfl) rfl (fun hn9 => Met.back (rm := R_m_hasMore) (m_hasMore hw sq (2 : Int32) (2 : Int32) F2_sq F3_sq) hn9 C.hZ (hw _ (List.mem_of_getElem? (i := 32) rfl)) (hw _ (List.mem_of_getElem? (i := 2) rfl)) (by decide) (by decide)) (k' := 4) (n' := 18) rfl rfl (by decide) (by decide) ?_
  rintro _ _ ⟨rfl, rfl⟩
  show Go w l _ n0 _ h97 4 18 277 #[.val (.int p0), .val (.int p1), .val (.int p2), .val (.int p3), .val (.int (0 : Int32)), .val (.int k0), .val (.int k1), .val (.int (1 : Int32)), .val (.int (0 : Int32)), .val (.int (0 : Int32)), .val (.int (0 : Int32)), .val (.int (3 : Int32)), .val (.ref b88), .val (.int (2 : Int32)), .val (.ref b95), .val (.int (1 : Int32)), .val (.ref sq)] [(.int (0 : Int32))]
  refine g_iload C at_277 (pc' := 279) rfl rfl ?_
  refine g_if_le C at_279 (by decide) (pc' := 286) (by decide) (pcN := 282) rfl (fun _ => ?_) (fun q => absurd q (by decide))
  refine g_iconst C (z := (0 : Int32)) at_286 (pc' := 287) rfl rfl ?_
  refine g_icmp_ne C at_287 (by decide) (pc' := 294) (by decide) (pcN := 290) rfl (fun q => absurd rfl q) (fun _ => ?_)
  refine g_iconst C (z := (1 : Int32)) at_290 (pc' := 291) rfl rfl ?_
  refine g_goto C at_291 (by decide) (pc' := 295) (by decide) ?_
  refine g_istore C at_295 (pc' := 297) rfl (Ls' := #[.val (.int p0), .val (.int p1), .val (.int p2), .val (.int p3), .val (.int (0 : Int32)), .val (.int k0), .val (.int k1), .val (.int (1 : Int32)), .val (.int (0 : Int32)), .val (.int (0 : Int32)), .val (.int (0 : Int32)), .val (.int (3 : Int32)), .val (.ref b88), .val (.int (2 : Int32)), .val (.ref b95), .val (.int (1 : Int32)), .val (.ref sq)]) rfl ?_
  refine g_iload C at_297 (pc' := 299) rfl rfl ?_
  refine g_if_le C at_299 (by decide) (pc' := 340) (by decide) (pcN := 302) rfl (fun _ => ?_) (fun q => absurd q (by decide))
  refine g_iload C at_340 (pc' := 342) rfl rfl ?_
  refine g_iconst C (z := (1 : Int32)) at_342 (pc' := 343) rfl rfl ?_
  refine g_icmp_le C at_343 (by decide) (pc' := 373) (by decide) (pcN := 346) rfl (fun _ => ?_) (fun q => absurd q (by decide))
  refine g_iload C at_373 (pc' := 375) rfl rfl ?_
  exact g_retN C (t := .boolean) rfl (by simp) at_375 rfl (by decide) (by decide)
set_option maxRecDepth 65536 in
set_option maxHeartbeats 40000000 in
theorem seg82_100 {l : Launch} {Z : State} {a0 : Array Value} (hw : ∀ d ∈ tables_1, d.before a0 Z = true) {w : Wk} {n0 : Nat} {h0 : Heap} {Y : State → Outcome → Prop} (p0 p1 p2 p3 k1 : Int32) (t_SEQUENCE t_NULL t_OCTET_STRING : Addr) (C : Cx w Z "com/example/sigillum/sigillum/codec/DerReaderHasMorePinLaw" code 17 (some .boolean) "law" room_1 n0 (fun v _ => v = some (.int 1)) Y) (X : Old Z n0 h0) (S_SEQUENCE : Sta Z Z.heap "com/example/sigillum/sigillum/codec/DerTag" "SEQUENCE" "Lcom/example/sigillum/sigillum/codec/DerTag;" (.ref t_SEQUENCE)) (E_SEQUENCE : Exa Z h0 t_SEQUENCE "com/example/sigillum/sigillum/codec/DerTag") (F_SEQUENCE : Fld Z h0 t_SEQUENCE "com/example/sigillum/sigillum/codec/DerTag" "identifier" "I" (.int 48)) (S_NULL : Sta Z Z.heap "com/example/sigillum/sigillum/codec/DerTag" "NULL" "Lcom/example/sigillum/sigillum/codec/DerTag;" (.ref t_NULL)) (E_NULL : Exa Z h0 t_NULL "com/example/sigillum/sigillum/codec/DerTag") (F_NULL : Fld Z h0 t_NULL "com/example/sigillum/sigillum/codec/DerTag" "identifier" "I" (.int 5)) (S_OCTET_STRING : Sta Z Z.heap "com/example/sigillum/sigillum/codec/DerTag" "OCTET_STRING" "Lcom/example/sigillum/sigillum/codec/DerTag;" (.ref t_OCTET_STRING)) (E_OCTET_STRING : Exa Z h0 t_OCTET_STRING "com/example/sigillum/sigillum/codec/DerTag") (F_OCTET_STRING : Fld Z h0 t_OCTET_STRING "com/example/sigillum/sigillum/codec/DerTag" "identifier" "I" (.int 4)) :
    Go w l room_1 n0 Y h0 0 0 82 #[.val (.int p0), .val (.int p1), .val (.int p2), .val (.int p3), .val (.int (1 : Int32)), .val (.int (0 : Int32)), .val (.int k1), .val (.int (0 : Int32)), .unset, .unset, .unset, .unset, .unset, .unset, .unset, .unset, .unset] [] := by
  refine g_iload C at_82 (pc' := 84) rfl rfl ?_
  refine g_if_le C at_84 (by decide) (pc' := 100) (by decide) (pcN := 87) rfl (fun q => absurd q (by decide)) (fun _ => ?_)
  refine g_iload C at_87 (pc' := 89) rfl rfl ?_
  refine g_if_eq C at_89 (by decide) (pc' := 96) (by decide) (pcN := 92) rfl (fun _ => ?_) (fun q => absurd rfl q)
  refine g_iconst C (z := (2 : Int32)) at_96 (pc' := 97) rfl rfl ?_
  refine g_goto C at_97 (by decide) (pc' := 101) (by decide) ?_
  refine g_istore C at_101 (pc' := 103) rfl (Ls' := #[.val (.int p0), .val (.int p1), .val (.int p2), .val (.int p3), .val (.int (1 : Int32)), .val (.int (0 : Int32)), .val (.int k1), .val (.int (0 : Int32)), .val (.int (2 : Int32)), .unset, .unset, .unset, .unset, .unset, .unset, .unset, .unset]) rfl ?_
  refine g_iload C at_103 (pc' := 105) rfl rfl ?_
  refine g_iconst C (z := (1 : Int32)) at_105 (pc' := 106) rfl rfl ?_
  refine g_icmp_le C at_106 (by decide) (pc' := 122) (by decide) (pcN := 109) rfl (fun _ => ?_) (fun q => absurd q (by decide))
  refine g_iconst C (z := (0 : Int32)) at_122 (pc' := 123) rfl rfl ?_
  refine g_istore C at_123 (pc' := 125) rfl (Ls' := #[.val (.int p0), .val (.int p1), .val (.int p2), .val (.int p3), .val (.int (1 : Int32)), .val (.int (0 : Int32)), .val (.int k1), .val (.int (0 : Int32)), .val (.int (2 : Int32)), .val (.int (0 : Int32)), .unset, .unset, .unset, .unset, .unset, .unset, .unset]) rfl ?_
  refine g_iload C at_125 (pc' := 127) rfl rfl ?_
  refine g_iload C at_127 (pc' := 129) rfl rfl ?_
  refine g_iadd C at_129 (pc' := 130) rfl ?_
  show Go w l _ n0 _ h0 0 0 130 #[.val (.int p0), .val (.int p1), .val (.int p2), .val (.int p3), .val (.int (1 : Int32)), .val (.int (0 : Int32)), .val (.int k1), .val (.int (0 : Int32)), .val (.int (2 : Int32)), .val (.int (0 : Int32)), .unset, .unset, .unset, .unset, .unset, .unset, .unset] [(.int (2 : Int32))]
  refine g_istore C at_130 (pc' := 132) rfl (Ls' := #[.val (.int p0), .val (.int p1), .val (.int p2), .val (.int p3), .val (.int (1 : Int32)), .val (.int (0 : Int32)), .val (.int k1), .val (.int (0 : Int32)), .val (.int (2 : Int32)), .val (.int (0 : Int32)), .val (.int (2 : Int32)), .unset, .unset, .unset, .unset, .unset, .unset]) rfl ?_
  refine g_iconst C (z := (2 : Int32)) at_132 (pc' := 133) rfl rfl ?_
  refine g_iload C at_133 (pc' := 135) rfl rfl ?_
  refine g_iadd C at_135 (pc' := 136) rfl ?_
  show Go w l _ n0 _ h0 0 0 136 #[.val (.int p0), .val (.int p1), .val (.int p2), .val (.int p3), .val (.int (1 : Int32)), .val (.int (0 : Int32)), .val (.int k1), .val (.int (0 : Int32)), .val (.int (2 : Int32)), .val (.int (0 : Int32)), .val (.int (2 : Int32)), .unset, .unset, .unset, .unset, .unset, .unset] [(.int (4 : Int32))]
  refine g_iload C at_136 (pc' := 138) rfl rfl ?_
  refine g_if_eq C at_138 (by decide) (pc' := 145) (by decide) (pcN := 141) rfl (fun _ => ?_) (fun q => absurd rfl q)
  refine g_iconst C (z := (0 : Int32)) at_145 (pc' := 146) rfl rfl ?_
  refine g_iadd C at_146 (pc' := 147) rfl ?_
  show Go w l _ n0 _ h0 0 0 147 #[.val (.int p0), .val (.int p1), .val (.int p2), .val (.int p3), .val (.int (1 : Int32)), .val (.int (0 : Int32)), .val (.int k1), .val (.int (0 : Int32)), .val (.int (2 : Int32)), .val (.int (0 : Int32)), .val (.int (2 : Int32)), .unset, .unset, .unset, .unset, .unset, .unset] [(.int (4 : Int32))]
  refine g_istore C at_147 (pc' := 149) rfl (Ls' := #[.val (.int p0), .val (.int p1), .val (.int p2), .val (.int p3), .val (.int (1 : Int32)), .val (.int (0 : Int32)), .val (.int k1), .val (.int (0 : Int32)), .val (.int (2 : Int32)), .val (.int (0 : Int32)), .val (.int (2 : Int32)), .val (.int (4 : Int32)), .unset, .unset, .unset, .unset, .unset]) rfl ?_
  refine g_iload C at_149 (pc' := 151) rfl rfl ?_
  refine g_newarr C (ad := "[B") (cap := 4) (hw _ (List.mem_of_getElem? (i := 3) rfl)) at_151 (pc' := 153) rfl rfl (by decide) (by decide) (by decide) (k' := 1) (n' := 4) rfl rfl (by decide) (by decide) rfl ?_
  intro h98 b98 E98 fb98 gb98 A98
  have ne_t_SEQUENCE_b98 : t_SEQUENCE ≠ b98 := Nat.ne_of_lt (Nat.lt_of_lt_of_le E_SEQUENCE.lt fb98)
  have ne_t_NULL_b98 : t_NULL ≠ b98 := Nat.ne_of_lt (Nat.lt_of_lt_of_le E_NULL.lt fb98)
  have ne_t_OCTET_STRING_b98 : t_OCTET_STRING ≠ b98 := Nat.ne_of_lt (Nat.lt_of_lt_of_le E_OCTET_STRING.lt fb98)
  have X := X.ext E98
  have E_SEQUENCE := E_SEQUENCE.ext E98
  have F_SEQUENCE := F_SEQUENCE.ext E98
  have E_NULL := E_NULL.ext E98
  have F_NULL := F_NULL.ext E98
  have E_OCTET_STRING := E_OCTET_STRING.ext E98
  have F_OCTET_STRING := F_OCTET_STRING.ext E98
  have A98 : Arf Z h98 b98 "[B" .byte (4 : Int32) (fun _ => (.int 0)) := A98
  refine g_astore C at_153 (pc' := 155) rfl rfl (Ls' := #[.val (.int p0), .val (.int p1), .val (.int p2), .val (.int p3), .val (.int (1 : Int32)), .val (.int (0 : Int32)), .val (.int k1), .val (.int (0 : Int32)), .val (.int (2 : Int32)), .val (.int (0 : Int32)), .val (.int (2 : Int32)), .val (.int (4 : Int32)), .val (.ref b98), .unset, .unset, .unset, .unset]) rfl ?_
  refine g_aload C at_155 (pc' := 157) rfl rfl rfl ?_
  refine g_iconst C (z := (0 : Int32)) at_157 (pc' := 158) rfl rfl ?_
  refine g_bipush C (z := (48 : Int32)) at_158 (pc' := 160) rfl rfl ?_
  refine g_bastore C A98 (by decide) (by decide) at_160 (pc' := 161) rfl gb98 (fun h99 W100 A98' => ?_)
  have X := X.wr W100 gb98
  have E_SEQUENCE := E_SEQUENCE.wr W100
  have F_SEQUENCE := F_SEQUENCE.other W100 (Or.inl ne_t_SEQUENCE_b98)
  have E_NULL := E_NULL.wr W100
  have F_NULL := F_NULL.other W100 (Or.inl ne_t_NULL_b98)
  have E_OCTET_STRING := E_OCTET_STRING.wr W100
  have F_OCTET_STRING := F_OCTET_STRING.other W100 (Or.inl ne_t_OCTET_STRING_b98)
  have A98 : Arf Z h99 b98 "[B" .byte (4 : Int32) (upd (fun _ => (.int 0)) 0 (.int (48 : Int32))) := A98'
  refine g_aload C at_161 (pc' := 163) rfl rfl rfl ?_
  refine g_iconst C (z := (1 : Int32)) at_163 (pc' := 164) rfl rfl ?_
  refine g_iload C at_164 (pc' := 166) rfl rfl ?_
  refine g_i2b C at_166 (pc' := 167) rfl ?_
  show Go w l _ n0 _ h99 1 4 167 #[.val (.int p0), .val (.int p1), .val (.int p2), .val (.int p3), .val (.int (1 : Int32)), .val (.int (0 : Int32)), .val (.int k1), .val (.int (0 : Int32)), .val (.int (2 : Int32)), .val (.int (0 : Int32)), .val (.int (2 : Int32)), .val (.int (4 : Int32)), .val (.ref b98), .unset, .unset, .unset, .unset] [(.int (2 : Int32)), (.int (1 : Int32)), (.ref b98)]
  refine g_bastore C A98 (by decide) (by decide) at_167 (pc' := 168) rfl gb98 (fun h101 W102 A98' => ?_)
  have X := X.wr W102 gb98
  have E_SEQUENCE := E_SEQUENCE.wr W102
  have F_SEQUENCE := F_SEQUENCE.other W102 (Or.inl ne_t_SEQUENCE_b98)
  have E_NULL := E_NULL.wr W102
  have F_NULL := F_NULL.other W102 (Or.inl ne_t_NULL_b98)
  have E_OCTET_STRING := E_OCTET_STRING.wr W102
  have F_OCTET_STRING := F_OCTET_STRING.other W102 (Or.inl ne_t_OCTET_STRING_b98)
  have A98 : Arf Z h101 b98 "[B" .byte (4 : Int32) (upd (upd (fun _ => (.int 0)) 0 (.int (48 : Int32))) 1 (.int (2 : Int32))) := A98'
  refine g_iconst C (z := (2 : Int32)) at_168 (pc' := 169) rfl rfl ?_
  refine g_istore C at_169 (pc' := 171) rfl (Ls' := #[.val (.int p0), .val (.int p1), .val (.int p2), .val (.int p3), .val (.int (1 : Int32)), .val (.int (0 : Int32)), .val (.int k1), .val (.int (0 : Int32)), .val (.int (2 : Int32)), .val (.int (0 : Int32)), .val (.int (2 : Int32)), .val (.int (4 : Int32)), .val (.ref b98), .val (.int (2 : Int32)), .unset, .unset, .unset]) rfl ?_
  refine g_iload C at_171 (pc' := 173) rfl rfl ?_
  refine g_if_le C at_173 (by decide) (pc' := 189) (by decide) (pcN := 176) rfl (fun q => absurd q (by decide)) (fun _ => ?_)
  refine g_aload C at_176 (pc' := 178) rfl rfl rfl ?_
  refine g_iload C at_178 (pc' := 180) rfl rfl ?_
  refine g_iload C at_180 (pc' := 182) rfl rfl ?_
  refine g_iloadN C at_182 (pc' := 183) rfl rfl ?_
  refine g_i2b C at_183 (pc' := 184) rfl ?_
  refine g_static (rm := R_m_put0) C (y := (⟨"com/example/sigillum/sigillum/codec/DerReaderHasMorePinLaw", "put", "([BIZB)I"⟩ : MethodName)) (hw _ (List.mem_of_getElem? (i := 54) rfl)) (hw _ (List.mem_of_getElem? (i := 55) rfl)) (hw _ (List.mem_of_getElem? (i := 56) rfl)) (hw _ (List.mem_of_getElem? (i := 57) rfl)) (by decide) at_184 (pc' := 187) rfl (argsL := [(.ref b98), (.int (2 : Int32)), (.int (0 : Int32)), (.int (p1.toInt8.toInt32))]) (rest := []) (lenOf pd_12 rfl) rfl (W := 0) (Nat.le_of_eq rfl) rfl (fun hn9 => Met.back (rm := R_m_put0) (m_put0 hw b98 (2 : Int32) (p1.toInt8.toInt32) (4 : Int32) (upd (upd (fun _ => (.int 0)) 0 (.int (48 : Int32))) 1 (.int (2 : Int32))) A98 gb98 (by decide) (by decide) (by decide) (by decide)) hn9 C.hZ (hw _ (List.mem_of_getElem? (i := 57) rfl)) (hw _ (List.mem_of_getElem? (i := 56) rfl)) (by decide) (by decide)) (k' := 1) (n' := 4) rfl rfl (by decide) (by decide) ?_
  rintro _ h103 ⟨rfl, Kp, Ap⟩
  have X := X.keep Kp (allS gb98 all0)
  have E_SEQUENCE := E_SEQUENCE.keep Kp
  have F_SEQUENCE := F_SEQUENCE.keep Kp (ninS ne_t_SEQUENCE_b98 nin0)
  have E_NULL := E_NULL.keep Kp
  have F_NULL := F_NULL.keep Kp (ninS ne_t_NULL_b98 nin0)
  have E_OCTET_STRING := E_OCTET_STRING.keep Kp
  have F_OCTET_STRING := F_OCTET_STRING.keep Kp (ninS ne_t_OCTET_STRING_b98 nin0)
  have A98 : Arf Z h103 b98 "[B" .byte (4 : Int32) (upd (upd (upd (upd (fun _ => (.int 0)) 0 (.int (48 : Int32))) 1 (.int (2 : Int32))) 2 (.int (5 : Int32))) 3 (.int (0 : Int32))) := Ap
  show Go w l _ n0 _ h103 1 4 187 #[.val (.int p0), .val (.int p1), .val (.int p2), .val (.int p3), .val (.int (1 : Int32)), .val (.int (0 : Int32)), .val (.int k1), .val (.int (0 : Int32)), .val (.int (2 : Int32)), .val (.int (0 : Int32)), .val (.int (2 : Int32)), .val (.int (4 : Int32)), .val (.ref b98), .val (.int (2 : Int32)), .unset, .unset, .unset] [(.int (4 : Int32))]
  refine g_istore C at_187 (pc' := 189) rfl (Ls' := #[.val (.int p0), .val (.int p1), .val (.int p2), .val (.int p3), .val (.int (1 : Int32)), .val (.int (0 : Int32)), .val (.int k1), .val (.int (0 : Int32)), .val (.int (2 : Int32)), .val (.int (0 : Int32)), .val (.int (2 : Int32)), .val (.int (4 : Int32)), .val (.ref b98), .val (.int (4 : Int32)), .unset, .unset, .unset]) rfl ?_
  refine g_iload C at_189 (pc' := 191) rfl rfl ?_
  refine g_iconst C (z := (1 : Int32)) at_191 (pc' := 192) rfl rfl ?_
  refine g_icmp_le C at_192 (by decide) (pc' := 208) (by decide) (pcN := 195) rfl (fun _ => ?_) (fun q => absurd q (by decide))
  refine g_iload C at_208 (pc' := 210) rfl rfl ?_
  refine g_if_eq C at_210 (by decide) (pc' := 220) (by decide) (pcN := 213) rfl (fun _ => ?_) (fun q => absurd rfl q)
  refine g_new C (hw _ (List.mem_of_getElem? (i := 0) rfl)) (hw _ (List.mem_of_getElem? (i := 1) rfl)) (hw _ (List.mem_of_getElem? (i := 2) rfl)) at_220 (pc' := 223) rfl (k' := 2) (n' := 7) rfl rfl (by decide) (by decide) ?_
  intro h104 b104 E104 fb104 gb104 A104 D104
  have ne_t_SEQUENCE_b104 : t_SEQUENCE ≠ b104 := Nat.ne_of_lt (Nat.lt_of_lt_of_le E_SEQUENCE.lt fb104)
  have ne_t_NULL_b104 : t_NULL ≠ b104 := Nat.ne_of_lt (Nat.lt_of_lt_of_le E_NULL.lt fb104)
  have ne_t_OCTET_STRING_b104 : t_OCTET_STRING ≠ b104 := Nat.ne_of_lt (Nat.lt_of_lt_of_le E_OCTET_STRING.lt fb104)
  have ne_b98_b104 : b98 ≠ b104 := Nat.ne_of_lt (Nat.lt_of_lt_of_le A98.lt fb104)
  have X := X.ext E104
  have E_SEQUENCE := E_SEQUENCE.ext E104
  have F_SEQUENCE := F_SEQUENCE.ext E104
  have E_NULL := E_NULL.ext E104
  have F_NULL := F_NULL.ext E104
  have E_OCTET_STRING := E_OCTET_STRING.ext E104
  have F_OCTET_STRING := F_OCTET_STRING.ext E104
  have A98 := A98.ext E104
  have F104_der : Fld Z h104 b104 "com/example/sigillum/sigillum/codec/DerReader" "der" "[B" .null := D104 (Or.inr (hw _ (List.mem_of_getElem? (i := 23) rfl))) (ty := (.array .byte)) (by decide)
  have F104_position : Fld Z h104 b104 "com/example/sigillum/sigillum/codec/DerReader" "position" "I" (.int (0 : Int32)) := D104 (Or.inl (hw _ (List.mem_of_getElem? (i := 25) rfl))) (ty := .int) (by decide)
  have F104_end : Fld Z h104 b104 "com/example/sigillum/sigillum/codec/DerReader" "end" "I" (.int (0 : Int32)) := D104 (Or.inr (hw _ (List.mem_of_getElem? (i := 27) rfl))) (ty := .int) (by decide)
  refine g_dup C at_223 (pc' := 224) rfl rfl ?_
  refine g_aload C at_224 (pc' := 226) rfl rfl rfl ?_
  refine g_special (rm := R_m_init1) (a := b104) C (y := (⟨"com/example/sigillum/sigillum/codec/DerReader", "<init>", "([B)V"⟩ : MethodName)) rfl (hw _ (List.mem_of_getElem? (i := 4) rfl)) (hw _ (List.mem_of_getElem? (i := 5) rfl)) (hw _ (List.mem_of_getElem? (i := 6) rfl)) (by decide) at_226 (pc' := 229) rfl (argsL := [(.ref b98)]) (rest := [(.ref b104)]) (lenOf pd_10 rfl) rfl (W := 1) (Nat.le_of_eq rfl) rfl (fun hn9 => Met.back (rm := R_m_init1) (m_init1 hw b104 b98 (4 : Int32) (upd (upd (upd (upd (fun _ => (.int 0)) 0 (.int (48 : Int32))) 1 (.int (2 : Int32))) 2 (.int (5 : Int32))) 3 (.int (0 : Int32))) ⟨A104, F104_der, F104_position, F104_end⟩ A98 (by decide) gb104) hn9 C.hZ (hw _ (List.mem_of_getElem? (i := 6) rfl)) (hw _ (List.mem_of_getElem? (i := 2) rfl)) (by decide) (by decide)) (k' := 3) (n' := 16) rfl rfl (by decide) (by decide) ?_
  rintro _ h105 ⟨rfl, Ki, t_b104, ft_b104, gt_b104, ⟨E_b104, F1_b104, F2_b104, F3_b104⟩, At_b104⟩
  have ne_t_SEQUENCE_t_b104 : t_SEQUENCE ≠ t_b104 := Nat.ne_of_lt (Nat.lt_of_lt_of_le E_SEQUENCE.lt ft_b104)
  have ne_t_NULL_t_b104 : t_NULL ≠ t_b104 := Nat.ne_of_lt (Nat.lt_of_lt_of_le E_NULL.lt ft_b104)
  have ne_t_OCTET_STRING_t_b104 : t_OCTET_STRING ≠ t_b104 := Nat.ne_of_lt (Nat.lt_of_lt_of_le E_OCTET_STRING.lt ft_b104)
  have ne_b98_t_b104 : b98 ≠ t_b104 := Nat.ne_of_lt (Nat.lt_of_lt_of_le A98.lt ft_b104)
  have ne_b104_t_b104 : b104 ≠ t_b104 := Nat.ne_of_lt (Nat.lt_of_lt_of_le A104.lt ft_b104)
  have X := X.keep Ki (allS gb104 all0)
  have E_SEQUENCE := E_SEQUENCE.keep Ki
  have F_SEQUENCE := F_SEQUENCE.keep Ki (ninS ne_t_SEQUENCE_b104 nin0)
  have E_NULL := E_NULL.keep Ki
  have F_NULL := F_NULL.keep Ki (ninS ne_t_NULL_b104 nin0)
  have E_OCTET_STRING := E_OCTET_STRING.keep Ki
  have F_OCTET_STRING := F_OCTET_STRING.keep Ki (ninS ne_t_OCTET_STRING_b104 nin0)
  have A98 := A98.keep Ki (ninS ne_b98_b104 nin0)
  have A104 := A104.keep Ki
  show Go w l _ n0 _ h105 3 16 229 #[.val (.int p0), .val (.int p1), .val (.int p2), .val (.int p3), .val (.int (1 : Int32)), .val (.int (0 : Int32)), .val (.int k1), .val (.int (0 : Int32)), .val (.int (2 : Int32)), .val (.int (0 : Int32)), .val (.int (2 : Int32)), .val (.int (4 : Int32)), .val (.ref b98), .val (.int (4 : Int32)), .unset, .unset, .unset] [(.ref b104)]
  refine g_astore C at_229 (pc' := 231) rfl rfl (Ls' := #[.val (.int p0), .val (.int p1), .val (.int p2), .val (.int p3), .val (.int (1 : Int32)), .val (.int (0 : Int32)), .val (.int k1), .val (.int (0 : Int32)), .val (.int (2 : Int32)), .val (.int (0 : Int32)), .val (.int (2 : Int32)), .val (.int (4 : Int32)), .val (.ref b98), .val (.int (4 : Int32)), .val (.ref b104), .unset, .unset]) rfl ?_
  refine g_aload C at_231 (pc' := 233) rfl rfl rfl ?_
  refine g_virtual (rm := R_m_hasMore) (a := b104) C (y := (⟨"com/example/sigillum/sigillum/codec/DerReader", "hasMore", "()Z"⟩ : MethodName)) (y' := (⟨"com/example/sigillum/sigillum/codec/DerReader", "hasMore", "()Z"⟩ : MethodName)) (hw _ (List.mem_of_getElem? (i := 28) rfl)) (hw _ (List.mem_of_getElem? (i := 29) rfl)) (g_nf C (hw _ (List.mem_of_getElem? (i := 31) rfl))) (hw _ (List.mem_of_getElem? (i := 31) rfl)) (hw _ (List.mem_of_getElem? (i := 30) rfl)) (by decide) E_b104 at_233 (pc' := 236) rfl (argsL := []) (rest := []) (lenOf pd_1 rfl) rfl (W := 0) (Nat.le_of_eq rfl) rfl (fun hn9 => Met.back (rm := R_m_hasMore) (m_hasMore hw b104 (0 : Int32) (4 : Int32) F2_b104 F3_b104) hn9 C.hZ (hw _ (List.mem_of_getElem? (i := 32) rfl)) (hw _ (List.mem_of_getElem? (i := 2) rfl)) (by decide) (by decide)) (k' := 3) (n' := 16) rfl rfl (by decide) (by decide) ?_
  rintro _ _ ⟨rfl, rfl⟩
  show Go w l _ n0 _ h105 3 16 236 #[.val (.int p0), .val (.int p1), .val (.int p2), .val (.int p3), .val (.int (1 : Int32)), .val (.int (0 : Int32)), .val (.int k1), .val (.int (0 : Int32)), .val (.int (2 : Int32)), .val (.int (0 : Int32)), .val (.int (2 : Int32)), .val (.int (4 : Int32)), .val (.ref b98), .val (.int (4 : Int32)), .val (.ref b104), .unset, .unset] [(.int (1 : Int32))]
  refine g_istore C at_236 (pc' := 238) rfl (Ls' := #[.val (.int p0), .val (.int p1), .val (.int p2), .val (.int p3), .val (.int (1 : Int32)), .val (.int (0 : Int32)), .val (.int k1), .val (.int (0 : Int32)), .val (.int (2 : Int32)), .val (.int (0 : Int32)), .val (.int (2 : Int32)), .val (.int (4 : Int32)), .val (.ref b98), .val (.int (4 : Int32)), .val (.ref b104), .val (.int (1 : Int32)), .unset]) rfl ?_
  refine g_aload C at_238 (pc' := 240) rfl rfl rfl ?_
  refine g_virtual (rm := R_m_seq) (a := b104) C (y := (⟨"com/example/sigillum/sigillum/codec/DerReader", "sequence", "()Lcom/example/sigillum/sigillum/codec/DerReader;"⟩ : MethodName)) (y' := (⟨"com/example/sigillum/sigillum/codec/DerReader", "sequence", "()Lcom/example/sigillum/sigillum/codec/DerReader;"⟩ : MethodName)) (hw _ (List.mem_of_getElem? (i := 33) rfl)) (hw _ (List.mem_of_getElem? (i := 34) rfl)) (g_nf C (hw _ (List.mem_of_getElem? (i := 36) rfl))) (hw _ (List.mem_of_getElem? (i := 36) rfl)) (hw _ (List.mem_of_getElem? (i := 35) rfl)) (by decide) E_b104 at_240 (pc' := 243) rfl (argsL := []) (rest := []) (lenOf pd_11 rfl) rfl (W := 0) (Nat.le_of_eq rfl) rfl (fun hn9 => Met.back (rm := R_m_seq) (m_seq hw b104 t_b104 t_SEQUENCE (0 : Int32) (4 : Int32) (4 : Int32) (48 : Int32) (2 : Int32) (2 : Int32) (48 : Int32) (2 : Int32) (upd (upd (upd (upd (fun _ => (.int 0)) 0 (.int (48 : Int32))) 1 (.int (2 : Int32))) 2 (.int (5 : Int32))) 3 (.int (0 : Int32))) (4 : Int32) ⟨E_b104, F1_b104, F2_b104, F3_b104⟩ At_b104 E_SEQUENCE F_SEQUENCE gb104 (Ne.symm ne_b104_t_b104) (by decide) (by decide) (by decide) rfl (by decide) (by decide) (by decide) (by decide) rfl (by decide) (by decide) (by decide) (by decide) (by decide) (S_SEQUENCE.ext X.2)) hn9 C.hZ (hw _ (List.mem_of_getElem? (i := 37) rfl)) (hw _ (List.mem_of_getElem? (i := 2) rfl)) (by decide) (by decide)) (k' := 4) (n' := 19) rfl rfl (by decide) (by decide) ?_
  rintro _ h106 ⟨sq, rfl, fsq, gsq, Ks, ⟨E_b104, F1_b104, F2_b104, F3_b104⟩, ⟨E_sq, F1_sq, F2_sq, F3_sq⟩⟩
  have ne_t_SEQUENCE_sq : t_SEQUENCE ≠ sq := Nat.ne_of_lt (Nat.lt_of_lt_of_le E_SEQUENCE.lt fsq)
  have ne_t_NULL_sq : t_NULL ≠ sq := Nat.ne_of_lt (Nat.lt_of_lt_of_le E_NULL.lt fsq)
  have ne_t_OCTET_STRING_sq : t_OCTET_STRING ≠ sq := Nat.ne_of_lt (Nat.lt_of_lt_of_le E_OCTET_STRING.lt fsq)
  have ne_b98_sq : b98 ≠ sq := Nat.ne_of_lt (Nat.lt_of_lt_of_le A98.lt fsq)
  have ne_t_b104_sq : t_b104 ≠ sq := Nat.ne_of_lt (Nat.lt_of_lt_of_le At_b104.lt fsq)
  have X := X.keep Ks (allS gb104 all0)
  have E_SEQUENCE := E_SEQUENCE.keep Ks
  have F_SEQUENCE := F_SEQUENCE.keep Ks (ninS ne_t_SEQUENCE_b104 nin0)
  have E_NULL := E_NULL.keep Ks
  have F_NULL := F_NULL.keep Ks (ninS ne_t_NULL_b104 nin0)
  have E_OCTET_STRING := E_OCTET_STRING.keep Ks
  have F_OCTET_STRING := F_OCTET_STRING.keep Ks (ninS ne_t_OCTET_STRING_b104 nin0)
  have A98 := A98.keep Ks (ninS ne_b98_b104 nin0)
  have At_b104 := At_b104.keep Ks (ninS (Ne.symm ne_b104_t_b104) nin0)
  show Go w l _ n0 _ h106 4 19 243 #[.val (.int p0), .val (.int p1), .val (.int p2), .val (.int p3), .val (.int (1 : Int32)), .val (.int (0 : Int32)), .val (.int k1), .val (.int (0 : Int32)), .val (.int (2 : Int32)), .val (.int (0 : Int32)), .val (.int (2 : Int32)), .val (.int (4 : Int32)), .val (.ref b98), .val (.int (4 : Int32)), .val (.ref b104), .val (.int (1 : Int32)), .unset] [(.ref sq)]
  refine g_astore C at_243 (pc' := 245) rfl rfl (Ls' := #[.val (.int p0), .val (.int p1), .val (.int p2), .val (.int p3), .val (.int (1 : Int32)), .val (.int (0 : Int32)), .val (.int k1), .val (.int (0 : Int32)), .val (.int (2 : Int32)), .val (.int (0 : Int32)), .val (.int (2 : Int32)), .val (.int (4 : Int32)), .val (.ref b98), .val (.int (4 : Int32)), .val (.ref b104), .val (.int (1 : Int32)), .val (.ref sq)]) rfl ?_
  refine g_iload C at_245 (pc' := 247) rfl rfl ?_
  refine g_if_eq C at_247 (by decide) (pc' := 264) (by decide) (pcN := 250) rfl (fun q => absurd q (by decide)) (fun _ => ?_)
  refine g_aload C at_250 (pc' := 252) rfl rfl rfl ?_
  refine g_virtual (rm := R_m_hasMore) (a := b104) C (y := (⟨"com/example/sigillum/sigillum/codec/DerReader", "hasMore", "()Z"⟩ : MethodName)) (y' := (⟨"com/example/sigillum/sigillum/codec/DerReader", "hasMore", "()Z"⟩ : MethodName)) (hw _ (List.mem_of_getElem? (i := 28) rfl)) (hw _ (List.mem_of_getElem? (i := 29) rfl)) (g_nf C (hw _ (List.mem_of_getElem? (i := 31) rfl))) (hw _ (List.mem_of_getElem? (i := 31) rfl)) (hw _ (List.mem_of_getElem? (i := 30) rfl)) (by decide) E_b104 at_252 (pc' := 255) rfl (argsL := []) (rest := []) (lenOf pd_1 rfl) rfl (W := 0) (Nat.le_of_eq rfl) rfl (fun hn9 => Met.back (rm := R_m_hasMore) (m_hasMore hw b104 (4 : Int32) (4 : Int32) F2_b104 F3_b104) hn9 C.hZ (hw _ (List.mem_of_getElem? (i := 32) rfl)) (hw _ (List.mem_of_getElem? (i := 2) rfl)) (by decide) (by decide)) (k' := 4) (n' := 19) rfl rfl (by decide) (by decide) ?_
  rintro _ _ ⟨rfl, rfl⟩
  show Go w l _ n0 _ h106 4 19 255 #[.val (.int p0), .val (.int p1), .val (.int p2), .val (.int p3), .val (.int (1 : Int32)), .val (.int (0 : Int32)), .val (.int k1), .val (.int (0 : Int32)), .val (.int (2 : Int32)), .val (.int (0 : Int32)), .val (.int (2 : Int32)), .val (.int (4 : Int32)), .val (.ref b98), .val (.int (4 : Int32)), .val (.ref b104), .val (.int (1 : Int32)), .val (.ref sq)] [(.int (0 : Int32))]
  refine g_iload C at_255 (pc' := 257) rfl rfl ?_
  refine g_icmp_ne C at_257 (by decide) (pc' := 264) (by decide) (pcN := 260) rfl (fun q => absurd rfl q) (fun _ => ?_)
  refine g_iconst C (z := (1 : Int32)) at_260 (pc' := 261) rfl rfl ?_
  refine g_goto C at_261 (by decide) (pc' := 265) (by decide) ?_
  refine g_istore C at_265 (pc' := 267) rfl (Ls' := #[.val (.int p0), .val (.int p1), .val (.int p2), .val (.int p3), .val (.int (1 : Int32)), .val (.int (0 : Int32)), .val (.int k1), .val (.int (0 : Int32)), .val (.int (2 : Int32)), .val (.int (0 : Int32)), .val (.int (2 : Int32)), .val (.int (4 : Int32)), .val (.ref b98), .val (.int (4 : Int32)), .val (.ref b104), .val (.int (1 : Int32)), .val (.ref sq)]) rfl ?_
  refine g_iload C at_267 (pc' := 269) rfl rfl ?_
  refine g_if_eq C at_269 (by decide) (pc' := 294) (by decide) (pcN := 272) rfl (fun q => absurd q (by decide)) (fun _ => ?_)
  refine g_aload C at_272 (pc' := 274) rfl rfl rfl ?_
  refine g_virtual (rm := R_m_hasMore) (a := sq) C (y := (⟨"com/example/sigillum/sigillum/codec/DerReader", "hasMore", "()Z"⟩ : MethodName)) (y' := (⟨"com/example/sigillum/sigillum/codec/DerReader", "hasMore", "()Z"⟩ : MethodName)) (hw _ (List.mem_of_getElem? (i := 28) rfl)) (hw _ (List.mem_of_getElem? (i := 29) rfl)) (g_nf C (hw _ (List.mem_of_getElem? (i := 31) rfl))) (hw _ (List.mem_of_getElem? (i := 31) rfl)) (hw _ (List.mem_of_getElem? (i := 30) rfl)) (by decide) E_sq at_274 (pc' := 277) rfl (argsL := []) (rest := []) (lenOf pd_1 rfl) rfl (W := 0) (Nat.le_of_eq rfl) rfl (fun hn9 => Met.back (rm := R_m_hasMore) (m_hasMore hw sq (2 : Int32) (4 : Int32) F2_sq F3_sq) hn9 C.hZ (hw _ (List.mem_of_getElem? (i := 32) rfl)) (hw _ (List.mem_of_getElem? (i := 2) rfl)) (by decide) (by decide)) (k' := 4) (n' := 19) rfl rfl (by decide) (by decide) ?_
  rintro _ _ ⟨rfl, rfl⟩
  show Go w l _ n0 _ h106 4 19 277 #[.val (.int p0), .val (.int p1), .val (.int p2), .val (.int p3), .val (.int (1 : Int32)), .val (.int (0 : Int32)), .val (.int k1), .val (.int (0 : Int32)), .val (.int (2 : Int32)), .val (.int (0 : Int32)), .val (.int (2 : Int32)), .val (.int (4 : Int32)), .val (.ref b98), .val (.int (4 : Int32)), .val (.ref b104), .val (.int (1 : Int32)), .val (.ref sq)] [(.int (1 : Int32))]
  refine g_iload C at_277 (pc' := 279) rfl rfl ?_
  refine g_if_le C at_279 (by decide) (pc' := 286) (by decide) (pcN := 282) rfl (fun q => absurd q (by decide)) (fun _ => ?_)
  refine g_iconst C (z := (1 : Int32)) at_282 (pc' := 283) rfl rfl ?_
  refine g_goto C at_283 (by decide) (pc' := 287) (by decide) ?_
  refine g_icmp_ne C at_287 (by decide) (pc' := 294) (by decide) (pcN := 290) rfl (fun q => absurd rfl q) (fun _ => ?_)
  refine g_iconst C (z := (1 : Int32)) at_290 (pc' := 291) rfl rfl ?_
  refine g_goto C at_291 (by decide) (pc' := 295) (by decide) ?_
  refine g_istore C at_295 (pc' := 297) rfl (Ls' := #[.val (.int p0), .val (.int p1), .val (.int p2), .val (.int p3), .val (.int (1 : Int32)), .val (.int (0 : Int32)), .val (.int k1), .val (.int (0 : Int32)), .val (.int (2 : Int32)), .val (.int (0 : Int32)), .val (.int (2 : Int32)), .val (.int (4 : Int32)), .val (.ref b98), .val (.int (4 : Int32)), .val (.ref b104), .val (.int (1 : Int32)), .val (.ref sq)]) rfl ?_
  refine g_iload C at_297 (pc' := 299) rfl rfl ?_
  refine g_if_le C at_299 (by decide) (pc' := 340) (by decide) (pcN := 302) rfl (fun q => absurd q (by decide)) (fun _ => ?_)
  refine g_aload C at_302 (pc' := 304) rfl rfl rfl ?_
  refine g_iload C at_304 (pc' := 306) rfl rfl ?_
  refine g_static (rm := R_m_read0) C (y := (⟨"com/example/sigillum/sigillum/codec/DerReaderHasMorePinLaw", "read", "(Lcom/example/sigillum/sigillum/codec/DerReader;Z)V"⟩ : MethodName)) (hw _ (List.mem_of_getElem? (i := 58) rfl)) (hw _ (List.mem_of_getElem? (i := 59) rfl)) (hw _ (List.mem_of_getElem? (i := 56) rfl)) (hw _ (List.mem_of_getElem? (i := 60) rfl)) (by decide) at_306 (pc' := 309) rfl (argsL := [(.ref sq), (.int (0 : Int32))]) (rest := []) (lenOf pd_13 rfl) rfl (W := 0) (Nat.le_of_eq rfl) rfl (fun hn9 => Met.back (rm := R_m_read0) (m_read0 hw sq t_b104 t_NULL (2 : Int32) (4 : Int32) (4 : Int32) (5 : Int32) (0 : Int32) (0 : Int32) (5 : Int32) (4 : Int32) (upd (upd (upd (upd (fun _ => (.int 0)) 0 (.int (48 : Int32))) 1 (.int (2 : Int32))) 2 (.int (5 : Int32))) 3 (.int (0 : Int32))) ⟨E_sq, F1_sq, F2_sq, F3_sq⟩ At_b104 E_NULL F_NULL gsq ne_t_b104_sq (by decide) (by decide) (by decide) rfl (by decide) (by decide) (by decide) (by decide) rfl (by decide) (by decide) (by decide) (by decide) (4 : Int32) (0 : Int32) (by decide) (by decide) (by decide) (by decide) (by decide) (by decide) (by decide) (by decide) (by decide) (by decide) (by decide) (by decide) (S_NULL.ext X.2)) hn9 C.hZ (hw _ (List.mem_of_getElem? (i := 60) rfl)) (hw _ (List.mem_of_getElem? (i := 56) rfl)) (by decide) (by decide)) (k' := 5) (n' := 22) rfl rfl (by decide) (by decide) ?_
  rintro _ h107 ⟨rfl, Kr, ⟨E_sq, F1_sq, F2_sq, F3_sq⟩⟩
  have X := X.keep Kr (allS gsq all0)
  have E_SEQUENCE := E_SEQUENCE.keep Kr
  have F_SEQUENCE := F_SEQUENCE.keep Kr (ninS ne_t_SEQUENCE_sq nin0)
  have E_NULL := E_NULL.keep Kr
  have F_NULL := F_NULL.keep Kr (ninS ne_t_NULL_sq nin0)
  have E_OCTET_STRING := E_OCTET_STRING.keep Kr
  have F_OCTET_STRING := F_OCTET_STRING.keep Kr (ninS ne_t_OCTET_STRING_sq nin0)
  have A98 := A98.keep Kr (ninS ne_b98_sq nin0)
  have At_b104 := At_b104.keep Kr (ninS ne_t_b104_sq nin0)
  have E_b104 := E_b104.keep Kr
  show Go w l _ n0 _ h107 5 22 309 #[.val (.int p0), .val (.int p1), .val (.int p2), .val (.int p3), .val (.int (1 : Int32)), .val (.int (0 : Int32)), .val (.int k1), .val (.int (0 : Int32)), .val (.int (2 : Int32)), .val (.int (0 : Int32)), .val (.int (2 : Int32)), .val (.int (4 : Int32)), .val (.ref b98), .val (.int (4 : Int32)), .val (.ref b104), .val (.int (1 : Int32)), .val (.ref sq)] []
  refine g_iload C at_309 (pc' := 311) rfl rfl ?_
  refine g_if_eq C at_311 (by decide) (pc' := 337) (by decide) (pcN := 314) rfl (fun q => absurd q (by decide)) (fun _ => ?_)
  refine g_aload C at_314 (pc' := 316) rfl rfl rfl ?_
  refine g_virtual (rm := R_m_hasMore) (a := sq) C (y := (⟨"com/example/sigillum/sigillum/codec/DerReader", "hasMore", "()Z"⟩ : MethodName)) (y' := (⟨"com/example/sigillum/sigillum/codec/DerReader", "hasMore", "()Z"⟩ : MethodName)) (hw _ (List.mem_of_getElem? (i := 28) rfl)) (hw _ (List.mem_of_getElem? (i := 29) rfl)) (g_nf C (hw _ (List.mem_of_getElem? (i := 31) rfl))) (hw _ (List.mem_of_getElem? (i := 31) rfl)) (hw _ (List.mem_of_getElem? (i := 30) rfl)) (by decide) E_sq at_316 (pc' := 319) rfl (argsL := []) (rest := []) (lenOf pd_1 rfl) rfl (W := 0) (Nat.le_of_eq rfl) rfl (fun hn9 => Met.back (rm := R_m_hasMore) (m_hasMore hw sq (4 : Int32) (4 : Int32) F2_sq F3_sq) hn9 C.hZ (hw _ (List.mem_of_getElem? (i := 32) rfl)) (hw _ (List.mem_of_getElem? (i := 2) rfl)) (by decide) (by decide)) (k' := 5) (n' := 22) rfl rfl (by decide) (by decide) ?_
  rintro _ _ ⟨rfl, rfl⟩
  show Go w l _ n0 _ h107 5 22 319 #[.val (.int p0), .val (.int p1), .val (.int p2), .val (.int p3), .val (.int (1 : Int32)), .val (.int (0 : Int32)), .val (.int k1), .val (.int (0 : Int32)), .val (.int (2 : Int32)), .val (.int (0 : Int32)), .val (.int (2 : Int32)), .val (.int (4 : Int32)), .val (.ref b98), .val (.int (4 : Int32)), .val (.ref b104), .val (.int (1 : Int32)), .val (.ref sq)] [(.int (0 : Int32))]
  refine g_iload C at_319 (pc' := 321) rfl rfl ?_
  refine g_iconst C (z := (1 : Int32)) at_321 (pc' := 322) rfl rfl ?_
  refine g_icmp_le C at_322 (by decide) (pc' := 329) (by decide) (pcN := 325) rfl (fun _ => ?_) (fun q => absurd q (by decide))
  refine g_iconst C (z := (0 : Int32)) at_329 (pc' := 330) rfl rfl ?_
  refine g_icmp_ne C at_330 (by decide) (pc' := 337) (by decide) (pcN := 333) rfl (fun q => absurd rfl q) (fun _ => ?_)
  refine g_iconst C (z := (1 : Int32)) at_333 (pc' := 334) rfl rfl ?_
  refine g_goto C at_334 (by decide) (pc' := 338) (by decide) ?_
  refine g_istore C at_338 (pc' := 340) rfl (Ls' := #[.val (.int p0), .val (.int p1), .val (.int p2), .val (.int p3), .val (.int (1 : Int32)), .val (.int (0 : Int32)), .val (.int k1), .val (.int (0 : Int32)), .val (.int (2 : Int32)), .val (.int (0 : Int32)), .val (.int (2 : Int32)), .val (.int (4 : Int32)), .val (.ref b98), .val (.int (4 : Int32)), .val (.ref b104), .val (.int (1 : Int32)), .val (.ref sq)]) rfl ?_
  refine g_iload C at_340 (pc' := 342) rfl rfl ?_
  refine g_iconst C (z := (1 : Int32)) at_342 (pc' := 343) rfl rfl ?_
  refine g_icmp_le C at_343 (by decide) (pc' := 373) (by decide) (pcN := 346) rfl (fun _ => ?_) (fun q => absurd q (by decide))
  refine g_iload C at_373 (pc' := 375) rfl rfl ?_
  exact g_retN C (t := .boolean) rfl (by simp) at_375 rfl (by decide) (by decide)
set_option maxRecDepth 65536 in
set_option maxHeartbeats 40000000 in
theorem seg82_101 {l : Launch} {Z : State} {a0 : Array Value} (hw : ∀ d ∈ tables_1, d.before a0 Z = true) {w : Wk} {n0 : Nat} {h0 : Heap} {Y : State → Outcome → Prop} (p0 p1 p2 p3 k1 : Int32) (t_SEQUENCE t_NULL t_OCTET_STRING : Addr) (C : Cx w Z "com/example/sigillum/sigillum/codec/DerReaderHasMorePinLaw" code 17 (some .boolean) "law" room_1 n0 (fun v _ => v = some (.int 1)) Y) (X : Old Z n0 h0) (S_SEQUENCE : Sta Z Z.heap "com/example/sigillum/sigillum/codec/DerTag" "SEQUENCE" "Lcom/example/sigillum/sigillum/codec/DerTag;" (.ref t_SEQUENCE)) (E_SEQUENCE : Exa Z h0 t_SEQUENCE "com/example/sigillum/sigillum/codec/DerTag") (F_SEQUENCE : Fld Z h0 t_SEQUENCE "com/example/sigillum/sigillum/codec/DerTag" "identifier" "I" (.int 48)) (S_NULL : Sta Z Z.heap "com/example/sigillum/sigillum/codec/DerTag" "NULL" "Lcom/example/sigillum/sigillum/codec/DerTag;" (.ref t_NULL)) (E_NULL : Exa Z h0 t_NULL "com/example/sigillum/sigillum/codec/DerTag") (F_NULL : Fld Z h0 t_NULL "com/example/sigillum/sigillum/codec/DerTag" "identifier" "I" (.int 5)) (S_OCTET_STRING : Sta Z Z.heap "com/example/sigillum/sigillum/codec/DerTag" "OCTET_STRING" "Lcom/example/sigillum/sigillum/codec/DerTag;" (.ref t_OCTET_STRING)) (E_OCTET_STRING : Exa Z h0 t_OCTET_STRING "com/example/sigillum/sigillum/codec/DerTag") (F_OCTET_STRING : Fld Z h0 t_OCTET_STRING "com/example/sigillum/sigillum/codec/DerTag" "identifier" "I" (.int 4)) :
    Go w l room_1 n0 Y h0 0 0 82 #[.val (.int p0), .val (.int p1), .val (.int p2), .val (.int p3), .val (.int (1 : Int32)), .val (.int (0 : Int32)), .val (.int k1), .val (.int (1 : Int32)), .unset, .unset, .unset, .unset, .unset, .unset, .unset, .unset, .unset] [] := by
  refine g_iload C at_82 (pc' := 84) rfl rfl ?_
  refine g_if_le C at_84 (by decide) (pc' := 100) (by decide) (pcN := 87) rfl (fun q => absurd q (by decide)) (fun _ => ?_)
  refine g_iload C at_87 (pc' := 89) rfl rfl ?_
  refine g_if_eq C at_89 (by decide) (pc' := 96) (by decide) (pcN := 92) rfl (fun _ => ?_) (fun q => absurd rfl q)
  refine g_iconst C (z := (2 : Int32)) at_96 (pc' := 97) rfl rfl ?_
  refine g_goto C at_97 (by decide) (pc' := 101) (by decide) ?_
  refine g_istore C at_101 (pc' := 103) rfl (Ls' := #[.val (.int p0), .val (.int p1), .val (.int p2), .val (.int p3), .val (.int (1 : Int32)), .val (.int (0 : Int32)), .val (.int k1), .val (.int (1 : Int32)), .val (.int (2 : Int32)), .unset, .unset, .unset, .unset, .unset, .unset, .unset, .unset]) rfl ?_
  refine g_iload C at_103 (pc' := 105) rfl rfl ?_
  refine g_iconst C (z := (1 : Int32)) at_105 (pc' := 106) rfl rfl ?_
  refine g_icmp_le C at_106 (by decide) (pc' := 122) (by decide) (pcN := 109) rfl (fun _ => ?_) (fun q => absurd q (by decide))
  refine g_iconst C (z := (0 : Int32)) at_122 (pc' := 123) rfl rfl ?_
  refine g_istore C at_123 (pc' := 125) rfl (Ls' := #[.val (.int p0), .val (.int p1), .val (.int p2), .val (.int p3), .val (.int (1 : Int32)), .val (.int (0 : Int32)), .val (.int k1), .val (.int (1 : Int32)), .val (.int (2 : Int32)), .val (.int (0 : Int32)), .unset, .unset, .unset, .unset, .unset, .unset, .unset]) rfl ?_
  refine g_iload C at_125 (pc' := 127) rfl rfl ?_
  refine g_iload C at_127 (pc' := 129) rfl rfl ?_
  refine g_iadd C at_129 (pc' := 130) rfl ?_
  show Go w l _ n0 _ h0 0 0 130 #[.val (.int p0), .val (.int p1), .val (.int p2), .val (.int p3), .val (.int (1 : Int32)), .val (.int (0 : Int32)), .val (.int k1), .val (.int (1 : Int32)), .val (.int (2 : Int32)), .val (.int (0 : Int32)), .unset, .unset, .unset, .unset, .unset, .unset, .unset] [(.int (2 : Int32))]
  refine g_istore C at_130 (pc' := 132) rfl (Ls' := #[.val (.int p0), .val (.int p1), .val (.int p2), .val (.int p3), .val (.int (1 : Int32)), .val (.int (0 : Int32)), .val (.int k1), .val (.int (1 : Int32)), .val (.int (2 : Int32)), .val (.int (0 : Int32)), .val (.int (2 : Int32)), .unset, .unset, .unset, .unset, .unset, .unset]) rfl ?_
  refine g_iconst C (z := (2 : Int32)) at_132 (pc' := 133) rfl rfl ?_
  refine g_iload C at_133 (pc' := 135) rfl rfl ?_
  refine g_iadd C at_135 (pc' := 136) rfl ?_
  show Go w l _ n0 _ h0 0 0 136 #[.val (.int p0), .val (.int p1), .val (.int p2), .val (.int p3), .val (.int (1 : Int32)), .val (.int (0 : Int32)), .val (.int k1), .val (.int (1 : Int32)), .val (.int (2 : Int32)), .val (.int (0 : Int32)), .val (.int (2 : Int32)), .unset, .unset, .unset, .unset, .unset, .unset] [(.int (4 : Int32))]
  refine g_iload C at_136 (pc' := 138) rfl rfl ?_
  refine g_if_eq C at_138 (by decide) (pc' := 145) (by decide) (pcN := 141) rfl (fun q => absurd q (by decide)) (fun _ => ?_)
  refine g_iconst C (z := (1 : Int32)) at_141 (pc' := 142) rfl rfl ?_
  refine g_goto C at_142 (by decide) (pc' := 146) (by decide) ?_
  refine g_iadd C at_146 (pc' := 147) rfl ?_
  show Go w l _ n0 _ h0 0 0 147 #[.val (.int p0), .val (.int p1), .val (.int p2), .val (.int p3), .val (.int (1 : Int32)), .val (.int (0 : Int32)), .val (.int k1), .val (.int (1 : Int32)), .val (.int (2 : Int32)), .val (.int (0 : Int32)), .val (.int (2 : Int32)), .unset, .unset, .unset, .unset, .unset, .unset] [(.int (5 : Int32))]
  refine g_istore C at_147 (pc' := 149) rfl (Ls' := #[.val (.int p0), .val (.int p1), .val (.int p2), .val (.int p3), .val (.int (1 : Int32)), .val (.int (0 : Int32)), .val (.int k1), .val (.int (1 : Int32)), .val (.int (2 : Int32)), .val (.int (0 : Int32)), .val (.int (2 : Int32)), .val (.int (5 : Int32)), .unset, .unset, .unset, .unset, .unset]) rfl ?_
  refine g_iload C at_149 (pc' := 151) rfl rfl ?_
  refine g_newarr C (ad := "[B") (cap := 5) (hw _ (List.mem_of_getElem? (i := 3) rfl)) at_151 (pc' := 153) rfl rfl (by decide) (by decide) (by decide) (k' := 1) (n' := 5) rfl rfl (by decide) (by decide) rfl ?_
  intro h108 b108 E108 fb108 gb108 A108
  have ne_t_SEQUENCE_b108 : t_SEQUENCE ≠ b108 := Nat.ne_of_lt (Nat.lt_of_lt_of_le E_SEQUENCE.lt fb108)
  have ne_t_NULL_b108 : t_NULL ≠ b108 := Nat.ne_of_lt (Nat.lt_of_lt_of_le E_NULL.lt fb108)
  have ne_t_OCTET_STRING_b108 : t_OCTET_STRING ≠ b108 := Nat.ne_of_lt (Nat.lt_of_lt_of_le E_OCTET_STRING.lt fb108)
  have X := X.ext E108
  have E_SEQUENCE := E_SEQUENCE.ext E108
  have F_SEQUENCE := F_SEQUENCE.ext E108
  have E_NULL := E_NULL.ext E108
  have F_NULL := F_NULL.ext E108
  have E_OCTET_STRING := E_OCTET_STRING.ext E108
  have F_OCTET_STRING := F_OCTET_STRING.ext E108
  have A108 : Arf Z h108 b108 "[B" .byte (5 : Int32) (fun _ => (.int 0)) := A108
  refine g_astore C at_153 (pc' := 155) rfl rfl (Ls' := #[.val (.int p0), .val (.int p1), .val (.int p2), .val (.int p3), .val (.int (1 : Int32)), .val (.int (0 : Int32)), .val (.int k1), .val (.int (1 : Int32)), .val (.int (2 : Int32)), .val (.int (0 : Int32)), .val (.int (2 : Int32)), .val (.int (5 : Int32)), .val (.ref b108), .unset, .unset, .unset, .unset]) rfl ?_
  refine g_aload C at_155 (pc' := 157) rfl rfl rfl ?_
  refine g_iconst C (z := (0 : Int32)) at_157 (pc' := 158) rfl rfl ?_
  refine g_bipush C (z := (48 : Int32)) at_158 (pc' := 160) rfl rfl ?_
  refine g_bastore C A108 (by decide) (by decide) at_160 (pc' := 161) rfl gb108 (fun h109 W110 A108' => ?_)
  have X := X.wr W110 gb108
  have E_SEQUENCE := E_SEQUENCE.wr W110
  have F_SEQUENCE := F_SEQUENCE.other W110 (Or.inl ne_t_SEQUENCE_b108)
  have E_NULL := E_NULL.wr W110
  have F_NULL := F_NULL.other W110 (Or.inl ne_t_NULL_b108)
  have E_OCTET_STRING := E_OCTET_STRING.wr W110
  have F_OCTET_STRING := F_OCTET_STRING.other W110 (Or.inl ne_t_OCTET_STRING_b108)
  have A108 : Arf Z h109 b108 "[B" .byte (5 : Int32) (upd (fun _ => (.int 0)) 0 (.int (48 : Int32))) := A108'
  refine g_aload C at_161 (pc' := 163) rfl rfl rfl ?_
  refine g_iconst C (z := (1 : Int32)) at_163 (pc' := 164) rfl rfl ?_
  refine g_iload C at_164 (pc' := 166) rfl rfl ?_
  refine g_i2b C at_166 (pc' := 167) rfl ?_
  show Go w l _ n0 _ h109 1 5 167 #[.val (.int p0), .val (.int p1), .val (.int p2), .val (.int p3), .val (.int (1 : Int32)), .val (.int (0 : Int32)), .val (.int k1), .val (.int (1 : Int32)), .val (.int (2 : Int32)), .val (.int (0 : Int32)), .val (.int (2 : Int32)), .val (.int (5 : Int32)), .val (.ref b108), .unset, .unset, .unset, .unset] [(.int (2 : Int32)), (.int (1 : Int32)), (.ref b108)]
  refine g_bastore C A108 (by decide) (by decide) at_167 (pc' := 168) rfl gb108 (fun h111 W112 A108' => ?_)
  have X := X.wr W112 gb108
  have E_SEQUENCE := E_SEQUENCE.wr W112
  have F_SEQUENCE := F_SEQUENCE.other W112 (Or.inl ne_t_SEQUENCE_b108)
  have E_NULL := E_NULL.wr W112
  have F_NULL := F_NULL.other W112 (Or.inl ne_t_NULL_b108)
  have E_OCTET_STRING := E_OCTET_STRING.wr W112
  have F_OCTET_STRING := F_OCTET_STRING.other W112 (Or.inl ne_t_OCTET_STRING_b108)
  have A108 : Arf Z h111 b108 "[B" .byte (5 : Int32) (upd (upd (fun _ => (.int 0)) 0 (.int (48 : Int32))) 1 (.int (2 : Int32))) := A108'
  refine g_iconst C (z := (2 : Int32)) at_168 (pc' := 169) rfl rfl ?_
  refine g_istore C at_169 (pc' := 171) rfl (Ls' := #[.val (.int p0), .val (.int p1), .val (.int p2), .val (.int p3), .val (.int (1 : Int32)), .val (.int (0 : Int32)), .val (.int k1), .val (.int (1 : Int32)), .val (.int (2 : Int32)), .val (.int (0 : Int32)), .val (.int (2 : Int32)), .val (.int (5 : Int32)), .val (.ref b108), .val (.int (2 : Int32)), .unset, .unset, .unset]) rfl ?_
  refine g_iload C at_171 (pc' := 173) rfl rfl ?_
  refine g_if_le C at_173 (by decide) (pc' := 189) (by decide) (pcN := 176) rfl (fun q => absurd q (by decide)) (fun _ => ?_)
  refine g_aload C at_176 (pc' := 178) rfl rfl rfl ?_
  refine g_iload C at_178 (pc' := 180) rfl rfl ?_
  refine g_iload C at_180 (pc' := 182) rfl rfl ?_
  refine g_iloadN C at_182 (pc' := 183) rfl rfl ?_
  refine g_i2b C at_183 (pc' := 184) rfl ?_
  refine g_static (rm := R_m_put0) C (y := (⟨"com/example/sigillum/sigillum/codec/DerReaderHasMorePinLaw", "put", "([BIZB)I"⟩ : MethodName)) (hw _ (List.mem_of_getElem? (i := 54) rfl)) (hw _ (List.mem_of_getElem? (i := 55) rfl)) (hw _ (List.mem_of_getElem? (i := 56) rfl)) (hw _ (List.mem_of_getElem? (i := 57) rfl)) (by decide) at_184 (pc' := 187) rfl (argsL := [(.ref b108), (.int (2 : Int32)), (.int (0 : Int32)), (.int (p1.toInt8.toInt32))]) (rest := []) (lenOf pd_12 rfl) rfl (W := 0) (Nat.le_of_eq rfl) rfl (fun hn9 => Met.back (rm := R_m_put0) (m_put0 hw b108 (2 : Int32) (p1.toInt8.toInt32) (5 : Int32) (upd (upd (fun _ => (.int 0)) 0 (.int (48 : Int32))) 1 (.int (2 : Int32))) A108 gb108 (by decide) (by decide) (by decide) (by decide)) hn9 C.hZ (hw _ (List.mem_of_getElem? (i := 57) rfl)) (hw _ (List.mem_of_getElem? (i := 56) rfl)) (by decide) (by decide)) (k' := 1) (n' := 5) rfl rfl (by decide) (by decide) ?_
  rintro _ h113 ⟨rfl, Kp, Ap⟩
  have X := X.keep Kp (allS gb108 all0)
  have E_SEQUENCE := E_SEQUENCE.keep Kp
  have F_SEQUENCE := F_SEQUENCE.keep Kp (ninS ne_t_SEQUENCE_b108 nin0)
  have E_NULL := E_NULL.keep Kp
  have F_NULL := F_NULL.keep Kp (ninS ne_t_NULL_b108 nin0)
  have E_OCTET_STRING := E_OCTET_STRING.keep Kp
  have F_OCTET_STRING := F_OCTET_STRING.keep Kp (ninS ne_t_OCTET_STRING_b108 nin0)
  have A108 : Arf Z h113 b108 "[B" .byte (5 : Int32) (upd (upd (upd (upd (fun _ => (.int 0)) 0 (.int (48 : Int32))) 1 (.int (2 : Int32))) 2 (.int (5 : Int32))) 3 (.int (0 : Int32))) := Ap
  show Go w l _ n0 _ h113 1 5 187 #[.val (.int p0), .val (.int p1), .val (.int p2), .val (.int p3), .val (.int (1 : Int32)), .val (.int (0 : Int32)), .val (.int k1), .val (.int (1 : Int32)), .val (.int (2 : Int32)), .val (.int (0 : Int32)), .val (.int (2 : Int32)), .val (.int (5 : Int32)), .val (.ref b108), .val (.int (2 : Int32)), .unset, .unset, .unset] [(.int (4 : Int32))]
  refine g_istore C at_187 (pc' := 189) rfl (Ls' := #[.val (.int p0), .val (.int p1), .val (.int p2), .val (.int p3), .val (.int (1 : Int32)), .val (.int (0 : Int32)), .val (.int k1), .val (.int (1 : Int32)), .val (.int (2 : Int32)), .val (.int (0 : Int32)), .val (.int (2 : Int32)), .val (.int (5 : Int32)), .val (.ref b108), .val (.int (4 : Int32)), .unset, .unset, .unset]) rfl ?_
  refine g_iload C at_189 (pc' := 191) rfl rfl ?_
  refine g_iconst C (z := (1 : Int32)) at_191 (pc' := 192) rfl rfl ?_
  refine g_icmp_le C at_192 (by decide) (pc' := 208) (by decide) (pcN := 195) rfl (fun _ => ?_) (fun q => absurd q (by decide))
  refine g_iload C at_208 (pc' := 210) rfl rfl ?_
  refine g_if_eq C at_210 (by decide) (pc' := 220) (by decide) (pcN := 213) rfl (fun q => absurd q (by decide)) (fun _ => ?_)
  refine g_aload C at_213 (pc' := 215) rfl rfl rfl ?_
  refine g_iload C at_215 (pc' := 217) rfl rfl ?_
  refine g_iloadN C at_217 (pc' := 218) rfl rfl ?_
  refine g_i2b C at_218 (pc' := 219) rfl ?_
  refine g_bastore C A108 (by decide) (by decide) at_219 (pc' := 220) rfl gb108 (fun h114 W115 A108' => ?_)
  have X := X.wr W115 gb108
  have E_SEQUENCE := E_SEQUENCE.wr W115
  have F_SEQUENCE := F_SEQUENCE.other W115 (Or.inl ne_t_SEQUENCE_b108)
  have E_NULL := E_NULL.wr W115
  have F_NULL := F_NULL.other W115 (Or.inl ne_t_NULL_b108)
  have E_OCTET_STRING := E_OCTET_STRING.wr W115
  have F_OCTET_STRING := F_OCTET_STRING.other W115 (Or.inl ne_t_OCTET_STRING_b108)
  have A108 : Arf Z h114 b108 "[B" .byte (5 : Int32) (upd (upd (upd (upd (upd (fun _ => (.int 0)) 0 (.int (48 : Int32))) 1 (.int (2 : Int32))) 2 (.int (5 : Int32))) 3 (.int (0 : Int32))) 4 (.int (nar .byte (p3.toInt8.toInt32)))) := A108'
  refine g_new C (hw _ (List.mem_of_getElem? (i := 0) rfl)) (hw _ (List.mem_of_getElem? (i := 1) rfl)) (hw _ (List.mem_of_getElem? (i := 2) rfl)) at_220 (pc' := 223) rfl (k' := 2) (n' := 8) rfl rfl (by decide) (by decide) ?_
  intro h116 b116 E116 fb116 gb116 A116 D116
  have ne_t_SEQUENCE_b116 : t_SEQUENCE ≠ b116 := Nat.ne_of_lt (Nat.lt_of_lt_of_le E_SEQUENCE.lt fb116)
  have ne_t_NULL_b116 : t_NULL ≠ b116 := Nat.ne_of_lt (Nat.lt_of_lt_of_le E_NULL.lt fb116)
  have ne_t_OCTET_STRING_b116 : t_OCTET_STRING ≠ b116 := Nat.ne_of_lt (Nat.lt_of_lt_of_le E_OCTET_STRING.lt fb116)
  have ne_b108_b116 : b108 ≠ b116 := Nat.ne_of_lt (Nat.lt_of_lt_of_le A108.lt fb116)
  have X := X.ext E116
  have E_SEQUENCE := E_SEQUENCE.ext E116
  have F_SEQUENCE := F_SEQUENCE.ext E116
  have E_NULL := E_NULL.ext E116
  have F_NULL := F_NULL.ext E116
  have E_OCTET_STRING := E_OCTET_STRING.ext E116
  have F_OCTET_STRING := F_OCTET_STRING.ext E116
  have A108 := A108.ext E116
  have F116_der : Fld Z h116 b116 "com/example/sigillum/sigillum/codec/DerReader" "der" "[B" .null := D116 (Or.inr (hw _ (List.mem_of_getElem? (i := 23) rfl))) (ty := (.array .byte)) (by decide)
  have F116_position : Fld Z h116 b116 "com/example/sigillum/sigillum/codec/DerReader" "position" "I" (.int (0 : Int32)) := D116 (Or.inl (hw _ (List.mem_of_getElem? (i := 25) rfl))) (ty := .int) (by decide)
  have F116_end : Fld Z h116 b116 "com/example/sigillum/sigillum/codec/DerReader" "end" "I" (.int (0 : Int32)) := D116 (Or.inr (hw _ (List.mem_of_getElem? (i := 27) rfl))) (ty := .int) (by decide)
  refine g_dup C at_223 (pc' := 224) rfl rfl ?_
  refine g_aload C at_224 (pc' := 226) rfl rfl rfl ?_
  refine g_special (rm := R_m_init1) (a := b116) C (y := (⟨"com/example/sigillum/sigillum/codec/DerReader", "<init>", "([B)V"⟩ : MethodName)) rfl (hw _ (List.mem_of_getElem? (i := 4) rfl)) (hw _ (List.mem_of_getElem? (i := 5) rfl)) (hw _ (List.mem_of_getElem? (i := 6) rfl)) (by decide) at_226 (pc' := 229) rfl (argsL := [(.ref b108)]) (rest := [(.ref b116)]) (lenOf pd_10 rfl) rfl (W := 1) (Nat.le_of_eq rfl) rfl (fun hn9 => Met.back (rm := R_m_init1) (m_init1 hw b116 b108 (5 : Int32) (upd (upd (upd (upd (upd (fun _ => (.int 0)) 0 (.int (48 : Int32))) 1 (.int (2 : Int32))) 2 (.int (5 : Int32))) 3 (.int (0 : Int32))) 4 (.int (nar .byte (p3.toInt8.toInt32)))) ⟨A116, F116_der, F116_position, F116_end⟩ A108 (by decide) gb116) hn9 C.hZ (hw _ (List.mem_of_getElem? (i := 6) rfl)) (hw _ (List.mem_of_getElem? (i := 2) rfl)) (by decide) (by decide)) (k' := 3) (n' := 17) rfl rfl (by decide) (by decide) ?_
  rintro _ h117 ⟨rfl, Ki, t_b116, ft_b116, gt_b116, ⟨E_b116, F1_b116, F2_b116, F3_b116⟩, At_b116⟩
  have ne_t_SEQUENCE_t_b116 : t_SEQUENCE ≠ t_b116 := Nat.ne_of_lt (Nat.lt_of_lt_of_le E_SEQUENCE.lt ft_b116)
  have ne_t_NULL_t_b116 : t_NULL ≠ t_b116 := Nat.ne_of_lt (Nat.lt_of_lt_of_le E_NULL.lt ft_b116)
  have ne_t_OCTET_STRING_t_b116 : t_OCTET_STRING ≠ t_b116 := Nat.ne_of_lt (Nat.lt_of_lt_of_le E_OCTET_STRING.lt ft_b116)
  have ne_b108_t_b116 : b108 ≠ t_b116 := Nat.ne_of_lt (Nat.lt_of_lt_of_le A108.lt ft_b116)
  have ne_b116_t_b116 : b116 ≠ t_b116 := Nat.ne_of_lt (Nat.lt_of_lt_of_le A116.lt ft_b116)
  have X := X.keep Ki (allS gb116 all0)
  have E_SEQUENCE := E_SEQUENCE.keep Ki
  have F_SEQUENCE := F_SEQUENCE.keep Ki (ninS ne_t_SEQUENCE_b116 nin0)
  have E_NULL := E_NULL.keep Ki
  have F_NULL := F_NULL.keep Ki (ninS ne_t_NULL_b116 nin0)
  have E_OCTET_STRING := E_OCTET_STRING.keep Ki
  have F_OCTET_STRING := F_OCTET_STRING.keep Ki (ninS ne_t_OCTET_STRING_b116 nin0)
  have A108 := A108.keep Ki (ninS ne_b108_b116 nin0)
  have A116 := A116.keep Ki
  show Go w l _ n0 _ h117 3 17 229 #[.val (.int p0), .val (.int p1), .val (.int p2), .val (.int p3), .val (.int (1 : Int32)), .val (.int (0 : Int32)), .val (.int k1), .val (.int (1 : Int32)), .val (.int (2 : Int32)), .val (.int (0 : Int32)), .val (.int (2 : Int32)), .val (.int (5 : Int32)), .val (.ref b108), .val (.int (4 : Int32)), .unset, .unset, .unset] [(.ref b116)]
  refine g_astore C at_229 (pc' := 231) rfl rfl (Ls' := #[.val (.int p0), .val (.int p1), .val (.int p2), .val (.int p3), .val (.int (1 : Int32)), .val (.int (0 : Int32)), .val (.int k1), .val (.int (1 : Int32)), .val (.int (2 : Int32)), .val (.int (0 : Int32)), .val (.int (2 : Int32)), .val (.int (5 : Int32)), .val (.ref b108), .val (.int (4 : Int32)), .val (.ref b116), .unset, .unset]) rfl ?_
  refine g_aload C at_231 (pc' := 233) rfl rfl rfl ?_
  refine g_virtual (rm := R_m_hasMore) (a := b116) C (y := (⟨"com/example/sigillum/sigillum/codec/DerReader", "hasMore", "()Z"⟩ : MethodName)) (y' := (⟨"com/example/sigillum/sigillum/codec/DerReader", "hasMore", "()Z"⟩ : MethodName)) (hw _ (List.mem_of_getElem? (i := 28) rfl)) (hw _ (List.mem_of_getElem? (i := 29) rfl)) (g_nf C (hw _ (List.mem_of_getElem? (i := 31) rfl))) (hw _ (List.mem_of_getElem? (i := 31) rfl)) (hw _ (List.mem_of_getElem? (i := 30) rfl)) (by decide) E_b116 at_233 (pc' := 236) rfl (argsL := []) (rest := []) (lenOf pd_1 rfl) rfl (W := 0) (Nat.le_of_eq rfl) rfl (fun hn9 => Met.back (rm := R_m_hasMore) (m_hasMore hw b116 (0 : Int32) (5 : Int32) F2_b116 F3_b116) hn9 C.hZ (hw _ (List.mem_of_getElem? (i := 32) rfl)) (hw _ (List.mem_of_getElem? (i := 2) rfl)) (by decide) (by decide)) (k' := 3) (n' := 17) rfl rfl (by decide) (by decide) ?_
  rintro _ _ ⟨rfl, rfl⟩
  show Go w l _ n0 _ h117 3 17 236 #[.val (.int p0), .val (.int p1), .val (.int p2), .val (.int p3), .val (.int (1 : Int32)), .val (.int (0 : Int32)), .val (.int k1), .val (.int (1 : Int32)), .val (.int (2 : Int32)), .val (.int (0 : Int32)), .val (.int (2 : Int32)), .val (.int (5 : Int32)), .val (.ref b108), .val (.int (4 : Int32)), .val (.ref b116), .unset, .unset] [(.int (1 : Int32))]
  refine g_istore C at_236 (pc' := 238) rfl (Ls' := #[.val (.int p0), .val (.int p1), .val (.int p2), .val (.int p3), .val (.int (1 : Int32)), .val (.int (0 : Int32)), .val (.int k1), .val (.int (1 : Int32)), .val (.int (2 : Int32)), .val (.int (0 : Int32)), .val (.int (2 : Int32)), .val (.int (5 : Int32)), .val (.ref b108), .val (.int (4 : Int32)), .val (.ref b116), .val (.int (1 : Int32)), .unset]) rfl ?_
  refine g_aload C at_238 (pc' := 240) rfl rfl rfl ?_
  refine g_virtual (rm := R_m_seq) (a := b116) C (y := (⟨"com/example/sigillum/sigillum/codec/DerReader", "sequence", "()Lcom/example/sigillum/sigillum/codec/DerReader;"⟩ : MethodName)) (y' := (⟨"com/example/sigillum/sigillum/codec/DerReader", "sequence", "()Lcom/example/sigillum/sigillum/codec/DerReader;"⟩ : MethodName)) (hw _ (List.mem_of_getElem? (i := 33) rfl)) (hw _ (List.mem_of_getElem? (i := 34) rfl)) (g_nf C (hw _ (List.mem_of_getElem? (i := 36) rfl))) (hw _ (List.mem_of_getElem? (i := 36) rfl)) (hw _ (List.mem_of_getElem? (i := 35) rfl)) (by decide) E_b116 at_240 (pc' := 243) rfl (argsL := []) (rest := []) (lenOf pd_11 rfl) rfl (W := 0) (Nat.le_of_eq rfl) rfl (fun hn9 => Met.back (rm := R_m_seq) (m_seq hw b116 t_b116 t_SEQUENCE (0 : Int32) (5 : Int32) (5 : Int32) (48 : Int32) (2 : Int32) (2 : Int32) (48 : Int32) (2 : Int32) (upd (upd (upd (upd (upd (fun _ => (.int 0)) 0 (.int (48 : Int32))) 1 (.int (2 : Int32))) 2 (.int (5 : Int32))) 3 (.int (0 : Int32))) 4 (.int (nar .byte (p3.toInt8.toInt32)))) (4 : Int32) ⟨E_b116, F1_b116, F2_b116, F3_b116⟩ At_b116 E_SEQUENCE F_SEQUENCE gb116 (Ne.symm ne_b116_t_b116) (by decide) (by decide) (by decide) rfl (by decide) (by decide) (by decide) (by decide) rfl (by decide) (by decide) (by decide) (by decide) (by decide) (S_SEQUENCE.ext X.2)) hn9 C.hZ (hw _ (List.mem_of_getElem? (i := 37) rfl)) (hw _ (List.mem_of_getElem? (i := 2) rfl)) (by decide) (by decide)) (k' := 4) (n' := 20) rfl rfl (by decide) (by decide) ?_
  rintro _ h118 ⟨sq, rfl, fsq, gsq, Ks, ⟨E_b116, F1_b116, F2_b116, F3_b116⟩, ⟨E_sq, F1_sq, F2_sq, F3_sq⟩⟩
  have ne_t_SEQUENCE_sq : t_SEQUENCE ≠ sq := Nat.ne_of_lt (Nat.lt_of_lt_of_le E_SEQUENCE.lt fsq)
  have ne_t_NULL_sq : t_NULL ≠ sq := Nat.ne_of_lt (Nat.lt_of_lt_of_le E_NULL.lt fsq)
  have ne_t_OCTET_STRING_sq : t_OCTET_STRING ≠ sq := Nat.ne_of_lt (Nat.lt_of_lt_of_le E_OCTET_STRING.lt fsq)
  have ne_b108_sq : b108 ≠ sq := Nat.ne_of_lt (Nat.lt_of_lt_of_le A108.lt fsq)
  have ne_t_b116_sq : t_b116 ≠ sq := Nat.ne_of_lt (Nat.lt_of_lt_of_le At_b116.lt fsq)
  have X := X.keep Ks (allS gb116 all0)
  have E_SEQUENCE := E_SEQUENCE.keep Ks
  have F_SEQUENCE := F_SEQUENCE.keep Ks (ninS ne_t_SEQUENCE_b116 nin0)
  have E_NULL := E_NULL.keep Ks
  have F_NULL := F_NULL.keep Ks (ninS ne_t_NULL_b116 nin0)
  have E_OCTET_STRING := E_OCTET_STRING.keep Ks
  have F_OCTET_STRING := F_OCTET_STRING.keep Ks (ninS ne_t_OCTET_STRING_b116 nin0)
  have A108 := A108.keep Ks (ninS ne_b108_b116 nin0)
  have At_b116 := At_b116.keep Ks (ninS (Ne.symm ne_b116_t_b116) nin0)
  show Go w l _ n0 _ h118 4 20 243 #[.val (.int p0), .val (.int p1), .val (.int p2), .val (.int p3), .val (.int (1 : Int32)), .val (.int (0 : Int32)), .val (.int k1), .val (.int (1 : Int32)), .val (.int (2 : Int32)), .val (.int (0 : Int32)), .val (.int (2 : Int32)), .val (.int (5 : Int32)), .val (.ref b108), .val (.int (4 : Int32)), .val (.ref b116), .val (.int (1 : Int32)), .unset] [(.ref sq)]
  refine g_astore C at_243 (pc' := 245) rfl rfl (Ls' := #[.val (.int p0), .val (.int p1), .val (.int p2), .val (.int p3), .val (.int (1 : Int32)), .val (.int (0 : Int32)), .val (.int k1), .val (.int (1 : Int32)), .val (.int (2 : Int32)), .val (.int (0 : Int32)), .val (.int (2 : Int32)), .val (.int (5 : Int32)), .val (.ref b108), .val (.int (4 : Int32)), .val (.ref b116), .val (.int (1 : Int32)), .val (.ref sq)]) rfl ?_
  refine g_iload C at_245 (pc' := 247) rfl rfl ?_
  refine g_if_eq C at_247 (by decide) (pc' := 264) (by decide) (pcN := 250) rfl (fun q => absurd q (by decide)) (fun _ => ?_)
  refine g_aload C at_250 (pc' := 252) rfl rfl rfl ?_
  refine g_virtual (rm := R_m_hasMore) (a := b116) C (y := (⟨"com/example/sigillum/sigillum/codec/DerReader", "hasMore", "()Z"⟩ : MethodName)) (y' := (⟨"com/example/sigillum/sigillum/codec/DerReader", "hasMore", "()Z"⟩ : MethodName)) (hw _ (List.mem_of_getElem? (i := 28) rfl)) (hw _ (List.mem_of_getElem? (i := 29) rfl)) (g_nf C (hw _ (List.mem_of_getElem? (i := 31) rfl))) (hw _ (List.mem_of_getElem? (i := 31) rfl)) (hw _ (List.mem_of_getElem? (i := 30) rfl)) (by decide) E_b116 at_252 (pc' := 255) rfl (argsL := []) (rest := []) (lenOf pd_1 rfl) rfl (W := 0) (Nat.le_of_eq rfl) rfl (fun hn9 => Met.back (rm := R_m_hasMore) (m_hasMore hw b116 (4 : Int32) (5 : Int32) F2_b116 F3_b116) hn9 C.hZ (hw _ (List.mem_of_getElem? (i := 32) rfl)) (hw _ (List.mem_of_getElem? (i := 2) rfl)) (by decide) (by decide)) (k' := 4) (n' := 20) rfl rfl (by decide) (by decide) ?_
  rintro _ _ ⟨rfl, rfl⟩
  show Go w l _ n0 _ h118 4 20 255 #[.val (.int p0), .val (.int p1), .val (.int p2), .val (.int p3), .val (.int (1 : Int32)), .val (.int (0 : Int32)), .val (.int k1), .val (.int (1 : Int32)), .val (.int (2 : Int32)), .val (.int (0 : Int32)), .val (.int (2 : Int32)), .val (.int (5 : Int32)), .val (.ref b108), .val (.int (4 : Int32)), .val (.ref b116), .val (.int (1 : Int32)), .val (.ref sq)] [(.int (1 : Int32))]
  refine g_iload C at_255 (pc' := 257) rfl rfl ?_
  refine g_icmp_ne C at_257 (by decide) (pc' := 264) (by decide) (pcN := 260) rfl (fun q => absurd rfl q) (fun _ => ?_)
  refine g_iconst C (z := (1 : Int32)) at_260 (pc' := 261) rfl rfl ?_
  refine g_goto C at_261 (by decide) (pc' := 265) (by decide) ?_
  refine g_istore C at_265 (pc' := 267) rfl (Ls' := #[.val (.int p0), .val (.int p1), .val (.int p2), .val (.int p3), .val (.int (1 : Int32)), .val (.int (0 : Int32)), .val (.int k1), .val (.int (1 : Int32)), .val (.int (2 : Int32)), .val (.int (0 : Int32)), .val (.int (2 : Int32)), .val (.int (5 : Int32)), .val (.ref b108), .val (.int (4 : Int32)), .val (.ref b116), .val (.int (1 : Int32)), .val (.ref sq)]) rfl ?_
  refine g_iload C at_267 (pc' := 269) rfl rfl ?_
  refine g_if_eq C at_269 (by decide) (pc' := 294) (by decide) (pcN := 272) rfl (fun q => absurd q (by decide)) (fun _ => ?_)
  refine g_aload C at_272 (pc' := 274) rfl rfl rfl ?_
  refine g_virtual (rm := R_m_hasMore) (a := sq) C (y := (⟨"com/example/sigillum/sigillum/codec/DerReader", "hasMore", "()Z"⟩ : MethodName)) (y' := (⟨"com/example/sigillum/sigillum/codec/DerReader", "hasMore", "()Z"⟩ : MethodName)) (hw _ (List.mem_of_getElem? (i := 28) rfl)) (hw _ (List.mem_of_getElem? (i := 29) rfl)) (g_nf C (hw _ (List.mem_of_getElem? (i := 31) rfl))) (hw _ (List.mem_of_getElem? (i := 31) rfl)) (hw _ (List.mem_of_getElem? (i := 30) rfl)) (by decide) E_sq at_274 (pc' := 277) rfl (argsL := []) (rest := []) (lenOf pd_1 rfl) rfl (W := 0) (Nat.le_of_eq rfl) rfl (fun hn9 => Met.back (rm := R_m_hasMore) (m_hasMore hw sq (2 : Int32) (4 : Int32) F2_sq F3_sq) hn9 C.hZ (hw _ (List.mem_of_getElem? (i := 32) rfl)) (hw _ (List.mem_of_getElem? (i := 2) rfl)) (by decide) (by decide)) (k' := 4) (n' := 20) rfl rfl (by decide) (by decide) ?_
  rintro _ _ ⟨rfl, rfl⟩
  show Go w l _ n0 _ h118 4 20 277 #[.val (.int p0), .val (.int p1), .val (.int p2), .val (.int p3), .val (.int (1 : Int32)), .val (.int (0 : Int32)), .val (.int k1), .val (.int (1 : Int32)), .val (.int (2 : Int32)), .val (.int (0 : Int32)), .val (.int (2 : Int32)), .val (.int (5 : Int32)), .val (.ref b108), .val (.int (4 : Int32)), .val (.ref b116), .val (.int (1 : Int32)), .val (.ref sq)] [(.int (1 : Int32))]
  refine g_iload C at_277 (pc' := 279) rfl rfl ?_
  refine g_if_le C at_279 (by decide) (pc' := 286) (by decide) (pcN := 282) rfl (fun q => absurd q (by decide)) (fun _ => ?_)
  refine g_iconst C (z := (1 : Int32)) at_282 (pc' := 283) rfl rfl ?_
  refine g_goto C at_283 (by decide) (pc' := 287) (by decide) ?_
  refine g_icmp_ne C at_287 (by decide) (pc' := 294) (by decide) (pcN := 290) rfl (fun q => absurd rfl q) (fun _ => ?_)
  refine g_iconst C (z := (1 : Int32)) at_290 (pc' := 291) rfl rfl ?_
  refine g_goto C at_291 (by decide) (pc' := 295) (by decide) ?_
  refine g_istore C at_295 (pc' := 297) rfl (Ls' := #[.val (.int p0), .val (.int p1), .val (.int p2), .val (.int p3), .val (.int (1 : Int32)), .val (.int (0 : Int32)), .val (.int k1), .val (.int (1 : Int32)), .val (.int (2 : Int32)), .val (.int (0 : Int32)), .val (.int (2 : Int32)), .val (.int (5 : Int32)), .val (.ref b108), .val (.int (4 : Int32)), .val (.ref b116), .val (.int (1 : Int32)), .val (.ref sq)]) rfl ?_
  refine g_iload C at_297 (pc' := 299) rfl rfl ?_
  refine g_if_le C at_299 (by decide) (pc' := 340) (by decide) (pcN := 302) rfl (fun q => absurd q (by decide)) (fun _ => ?_)
  refine g_aload C at_302 (pc' := 304) rfl rfl rfl ?_
  refine g_iload C at_304 (pc' := 306) rfl rfl ?_
  refine g_static (rm := R_m_read0) C (y := (⟨"com/example/sigillum/sigillum/codec/DerReaderHasMorePinLaw", "read", "(Lcom/example/sigillum/sigillum/codec/DerReader;Z)V"⟩ : MethodName)) (hw _ (List.mem_of_getElem? (i := 58) rfl)) (hw _ (List.mem_of_getElem? (i := 59) rfl)) (hw _ (List.mem_of_getElem? (i := 56) rfl)) (hw _ (List.mem_of_getElem? (i := 60) rfl)) (by decide) at_306 (pc' := 309) rfl (argsL := [(.ref sq), (.int (0 : Int32))]) (rest := []) (lenOf pd_13 rfl) rfl (W := 0) (Nat.le_of_eq rfl) rfl (fun hn9 => Met.back (rm := R_m_read0) (m_read0 hw sq t_b116 t_NULL (2 : Int32) (4 : Int32) (5 : Int32) (5 : Int32) (0 : Int32) (0 : Int32) (5 : Int32) (4 : Int32) (upd (upd (upd (upd (upd (fun _ => (.int 0)) 0 (.int (48 : Int32))) 1 (.int (2 : Int32))) 2 (.int (5 : Int32))) 3 (.int (0 : Int32))) 4 (.int (nar .byte (p3.toInt8.toInt32)))) ⟨E_sq, F1_sq, F2_sq, F3_sq⟩ At_b116 E_NULL F_NULL gsq ne_t_b116_sq (by decide) (by decide) (by decide) rfl (by decide) (by decide) (by decide) (by decide) rfl (by decide) (by decide) (by decide) (by decide) (4 : Int32) (0 : Int32) (by decide) (by decide) (by decide) (by decide) (by decide) (by decide) (by decide) (by decide) (by decide) (by decide) (by decide) (by decide) (S_NULL.ext X.2)) hn9 C.hZ (hw _ (List.mem_of_getElem? (i := 60) rfl)) (hw _ (List.mem_of_getElem? (i := 56) rfl)) (by decide) (by decide)) (k' := 5) (n' := 23) rfl rfl (by decide) (by decide) ?_
  rintro _ h119 ⟨rfl, Kr, ⟨E_sq, F1_sq, F2_sq, F3_sq⟩⟩
  have X := X.keep Kr (allS gsq all0)
  have E_SEQUENCE := E_SEQUENCE.keep Kr
  have F_SEQUENCE := F_SEQUENCE.keep Kr (ninS ne_t_SEQUENCE_sq nin0)
  have E_NULL := E_NULL.keep Kr
  have F_NULL := F_NULL.keep Kr (ninS ne_t_NULL_sq nin0)
  have E_OCTET_STRING := E_OCTET_STRING.keep Kr
  have F_OCTET_STRING := F_OCTET_STRING.keep Kr (ninS ne_t_OCTET_STRING_sq nin0)
  have A108 := A108.keep Kr (ninS ne_b108_sq nin0)
  have At_b116 := At_b116.keep Kr (ninS ne_t_b116_sq nin0)
  have E_b116 := E_b116.keep Kr
  show Go w l _ n0 _ h119 5 23 309 #[.val (.int p0), .val (.int p1), .val (.int p2), .val (.int p3), .val (.int (1 : Int32)), .val (.int (0 : Int32)), .val (.int k1), .val (.int (1 : Int32)), .val (.int (2 : Int32)), .val (.int (0 : Int32)), .val (.int (2 : Int32)), .val (.int (5 : Int32)), .val (.ref b108), .val (.int (4 : Int32)), .val (.ref b116), .val (.int (1 : Int32)), .val (.ref sq)] []
  refine g_iload C at_309 (pc' := 311) rfl rfl ?_
  refine g_if_eq C at_311 (by decide) (pc' := 337) (by decide) (pcN := 314) rfl (fun q => absurd q (by decide)) (fun _ => ?_)
  refine g_aload C at_314 (pc' := 316) rfl rfl rfl ?_
  refine g_virtual (rm := R_m_hasMore) (a := sq) C (y := (⟨"com/example/sigillum/sigillum/codec/DerReader", "hasMore", "()Z"⟩ : MethodName)) (y' := (⟨"com/example/sigillum/sigillum/codec/DerReader", "hasMore", "()Z"⟩ : MethodName)) (hw _ (List.mem_of_getElem? (i := 28) rfl)) (hw _ (List.mem_of_getElem? (i := 29) rfl)) (g_nf C (hw _ (List.mem_of_getElem? (i := 31) rfl))) (hw _ (List.mem_of_getElem? (i := 31) rfl)) (hw _ (List.mem_of_getElem? (i := 30) rfl)) (by decide) E_sq at_316 (pc' := 319) rfl (argsL := []) (rest := []) (lenOf pd_1 rfl) rfl (W := 0) (Nat.le_of_eq rfl) rfl (fun hn9 => Met.back (rm := R_m_hasMore) (m_hasMore hw sq (4 : Int32) (4 : Int32) F2_sq F3_sq) hn9 C.hZ (hw _ (List.mem_of_getElem? (i := 32) rfl)) (hw _ (List.mem_of_getElem? (i := 2) rfl)) (by decide) (by decide)) (k' := 5) (n' := 23) rfl rfl (by decide) (by decide) ?_
  rintro _ _ ⟨rfl, rfl⟩
  show Go w l _ n0 _ h119 5 23 319 #[.val (.int p0), .val (.int p1), .val (.int p2), .val (.int p3), .val (.int (1 : Int32)), .val (.int (0 : Int32)), .val (.int k1), .val (.int (1 : Int32)), .val (.int (2 : Int32)), .val (.int (0 : Int32)), .val (.int (2 : Int32)), .val (.int (5 : Int32)), .val (.ref b108), .val (.int (4 : Int32)), .val (.ref b116), .val (.int (1 : Int32)), .val (.ref sq)] [(.int (0 : Int32))]
  refine g_iload C at_319 (pc' := 321) rfl rfl ?_
  refine g_iconst C (z := (1 : Int32)) at_321 (pc' := 322) rfl rfl ?_
  refine g_icmp_le C at_322 (by decide) (pc' := 329) (by decide) (pcN := 325) rfl (fun _ => ?_) (fun q => absurd q (by decide))
  refine g_iconst C (z := (0 : Int32)) at_329 (pc' := 330) rfl rfl ?_
  refine g_icmp_ne C at_330 (by decide) (pc' := 337) (by decide) (pcN := 333) rfl (fun q => absurd rfl q) (fun _ => ?_)
  refine g_iconst C (z := (1 : Int32)) at_333 (pc' := 334) rfl rfl ?_
  refine g_goto C at_334 (by decide) (pc' := 338) (by decide) ?_
  refine g_istore C at_338 (pc' := 340) rfl (Ls' := #[.val (.int p0), .val (.int p1), .val (.int p2), .val (.int p3), .val (.int (1 : Int32)), .val (.int (0 : Int32)), .val (.int k1), .val (.int (1 : Int32)), .val (.int (2 : Int32)), .val (.int (0 : Int32)), .val (.int (2 : Int32)), .val (.int (5 : Int32)), .val (.ref b108), .val (.int (4 : Int32)), .val (.ref b116), .val (.int (1 : Int32)), .val (.ref sq)]) rfl ?_
  refine g_iload C at_340 (pc' := 342) rfl rfl ?_
  refine g_iconst C (z := (1 : Int32)) at_342 (pc' := 343) rfl rfl ?_
  refine g_icmp_le C at_343 (by decide) (pc' := 373) (by decide) (pcN := 346) rfl (fun _ => ?_) (fun q => absurd q (by decide))
  refine g_iload C at_373 (pc' := 375) rfl rfl ?_
  exact g_retN C (t := .boolean) rfl (by simp) at_375 rfl (by decide) (by decide)
set_option maxRecDepth 65536 in
set_option maxHeartbeats 40000000 in
theorem seg82_110 {l : Launch} {Z : State} {a0 : Array Value} (hw : ∀ d ∈ tables_1, d.before a0 Z = true) {w : Wk} {n0 : Nat} {h0 : Heap} {Y : State → Outcome → Prop} (p0 p1 p2 p3 k1 : Int32) (t_SEQUENCE t_NULL t_OCTET_STRING : Addr) (C : Cx w Z "com/example/sigillum/sigillum/codec/DerReaderHasMorePinLaw" code 17 (some .boolean) "law" room_1 n0 (fun v _ => v = some (.int 1)) Y) (X : Old Z n0 h0) (S_SEQUENCE : Sta Z Z.heap "com/example/sigillum/sigillum/codec/DerTag" "SEQUENCE" "Lcom/example/sigillum/sigillum/codec/DerTag;" (.ref t_SEQUENCE)) (E_SEQUENCE : Exa Z h0 t_SEQUENCE "com/example/sigillum/sigillum/codec/DerTag") (F_SEQUENCE : Fld Z h0 t_SEQUENCE "com/example/sigillum/sigillum/codec/DerTag" "identifier" "I" (.int 48)) (S_NULL : Sta Z Z.heap "com/example/sigillum/sigillum/codec/DerTag" "NULL" "Lcom/example/sigillum/sigillum/codec/DerTag;" (.ref t_NULL)) (E_NULL : Exa Z h0 t_NULL "com/example/sigillum/sigillum/codec/DerTag") (F_NULL : Fld Z h0 t_NULL "com/example/sigillum/sigillum/codec/DerTag" "identifier" "I" (.int 5)) (S_OCTET_STRING : Sta Z Z.heap "com/example/sigillum/sigillum/codec/DerTag" "OCTET_STRING" "Lcom/example/sigillum/sigillum/codec/DerTag;" (.ref t_OCTET_STRING)) (E_OCTET_STRING : Exa Z h0 t_OCTET_STRING "com/example/sigillum/sigillum/codec/DerTag") (F_OCTET_STRING : Fld Z h0 t_OCTET_STRING "com/example/sigillum/sigillum/codec/DerTag" "identifier" "I" (.int 4)) :
    Go w l room_1 n0 Y h0 0 0 82 #[.val (.int p0), .val (.int p1), .val (.int p2), .val (.int p3), .val (.int (1 : Int32)), .val (.int (1 : Int32)), .val (.int k1), .val (.int (0 : Int32)), .unset, .unset, .unset, .unset, .unset, .unset, .unset, .unset, .unset] [] := by
  refine g_iload C at_82 (pc' := 84) rfl rfl ?_
  refine g_if_le C at_84 (by decide) (pc' := 100) (by decide) (pcN := 87) rfl (fun q => absurd q (by decide)) (fun _ => ?_)
  refine g_iload C at_87 (pc' := 89) rfl rfl ?_
  refine g_if_eq C at_89 (by decide) (pc' := 96) (by decide) (pcN := 92) rfl (fun q => absurd q (by decide)) (fun _ => ?_)
  refine g_iconst C (z := (3 : Int32)) at_92 (pc' := 93) rfl rfl ?_
  refine g_goto C at_93 (by decide) (pc' := 101) (by decide) ?_
  refine g_istore C at_101 (pc' := 103) rfl (Ls' := #[.val (.int p0), .val (.int p1), .val (.int p2), .val (.int p3), .val (.int (1 : Int32)), .val (.int (1 : Int32)), .val (.int k1), .val (.int (0 : Int32)), .val (.int (3 : Int32)), .unset, .unset, .unset, .unset, .unset, .unset, .unset, .unset]) rfl ?_
  refine g_iload C at_103 (pc' := 105) rfl rfl ?_
  refine g_iconst C (z := (1 : Int32)) at_105 (pc' := 106) rfl rfl ?_
  refine g_icmp_le C at_106 (by decide) (pc' := 122) (by decide) (pcN := 109) rfl (fun _ => ?_) (fun q => absurd q (by decide))
  refine g_iconst C (z := (0 : Int32)) at_122 (pc' := 123) rfl rfl ?_
  refine g_istore C at_123 (pc' := 125) rfl (Ls' := #[.val (.int p0), .val (.int p1), .val (.int p2), .val (.int p3), .val (.int (1 : Int32)), .val (.int (1 : Int32)), .val (.int k1), .val (.int (0 : Int32)), .val (.int (3 : Int32)), .val (.int (0 : Int32)), .unset, .unset, .unset, .unset, .unset, .unset, .unset]) rfl ?_
  refine g_iload C at_125 (pc' := 127) rfl rfl ?_
  refine g_iload C at_127 (pc' := 129) rfl rfl ?_
  refine g_iadd C at_129 (pc' := 130) rfl ?_
  show Go w l _ n0 _ h0 0 0 130 #[.val (.int p0), .val (.int p1), .val (.int p2), .val (.int p3), .val (.int (1 : Int32)), .val (.int (1 : Int32)), .val (.int k1), .val (.int (0 : Int32)), .val (.int (3 : Int32)), .val (.int (0 : Int32)), .unset, .unset, .unset, .unset, .unset, .unset, .unset] [(.int (3 : Int32))]
  refine g_istore C at_130 (pc' := 132) rfl (Ls' := #[.val (.int p0), .val (.int p1), .val (.int p2), .val (.int p3), .val (.int (1 : Int32)), .val (.int (1 : Int32)), .val (.int k1), .val (.int (0 : Int32)), .val (.int (3 : Int32)), .val (.int (0 : Int32)), .val (.int (3 : Int32)), .unset, .unset, .unset, .unset, .unset, .unset]) rfl ?_
  refine g_iconst C (z := (2 : Int32)) at_132 (pc' := 133) rfl rfl ?_
  refine g_iload C at_133 (pc' := 135) rfl rfl ?_
  refine g_iadd C at_135 (pc' := 136) rfl ?_
  show Go w l _ n0 _ h0 0 0 136 #[.val (.int p0), .val (.int p1), .val (.int p2), .val (.int p3), .val (.int (1 : Int32)), .val (.int (1 : Int32)), .val (.int k1), .val (.int (0 : Int32)), .val (.int (3 : Int32)), .val (.int (0 : Int32)), .val (.int (3 : Int32)), .unset, .unset, .unset, .unset, .unset, .unset] [(.int (5 : Int32))]
  refine g_iload C at_136 (pc' := 138) rfl rfl ?_
  refine g_if_eq C at_138 (by decide) (pc' := 145) (by decide) (pcN := 141) rfl (fun _ => ?_) (fun q => absurd rfl q)
  refine g_iconst C (z := (0 : Int32)) at_145 (pc' := 146) rfl rfl ?_
  refine g_iadd C at_146 (pc' := 147) rfl ?_
  show Go w l _ n0 _ h0 0 0 147 #[.val (.int p0), .val (.int p1), .val (.int p2), .val (.int p3), .val (.int (1 : Int32)), .val (.int (1 : Int32)), .val (.int k1), .val (.int (0 : Int32)), .val (.int (3 : Int32)), .val (.int (0 : Int32)), .val (.int (3 : Int32)), .unset, .unset, .unset, .unset, .unset, .unset] [(.int (5 : Int32))]
  refine g_istore C at_147 (pc' := 149) rfl (Ls' := #[.val (.int p0), .val (.int p1), .val (.int p2), .val (.int p3), .val (.int (1 : Int32)), .val (.int (1 : Int32)), .val (.int k1), .val (.int (0 : Int32)), .val (.int (3 : Int32)), .val (.int (0 : Int32)), .val (.int (3 : Int32)), .val (.int (5 : Int32)), .unset, .unset, .unset, .unset, .unset]) rfl ?_
  refine g_iload C at_149 (pc' := 151) rfl rfl ?_
  refine g_newarr C (ad := "[B") (cap := 5) (hw _ (List.mem_of_getElem? (i := 3) rfl)) at_151 (pc' := 153) rfl rfl (by decide) (by decide) (by decide) (k' := 1) (n' := 5) rfl rfl (by decide) (by decide) rfl ?_
  intro h120 b120 E120 fb120 gb120 A120
  have ne_t_SEQUENCE_b120 : t_SEQUENCE ≠ b120 := Nat.ne_of_lt (Nat.lt_of_lt_of_le E_SEQUENCE.lt fb120)
  have ne_t_NULL_b120 : t_NULL ≠ b120 := Nat.ne_of_lt (Nat.lt_of_lt_of_le E_NULL.lt fb120)
  have ne_t_OCTET_STRING_b120 : t_OCTET_STRING ≠ b120 := Nat.ne_of_lt (Nat.lt_of_lt_of_le E_OCTET_STRING.lt fb120)
  have X := X.ext E120
  have E_SEQUENCE := E_SEQUENCE.ext E120
  have F_SEQUENCE := F_SEQUENCE.ext E120
  have E_NULL := E_NULL.ext E120
  have F_NULL := F_NULL.ext E120
  have E_OCTET_STRING := E_OCTET_STRING.ext E120
  have F_OCTET_STRING := F_OCTET_STRING.ext E120
  have A120 : Arf Z h120 b120 "[B" .byte (5 : Int32) (fun _ => (.int 0)) := A120
  refine g_astore C at_153 (pc' := 155) rfl rfl (Ls' := #[.val (.int p0), .val (.int p1), .val (.int p2), .val (.int p3), .val (.int (1 : Int32)), .val (.int (1 : Int32)), .val (.int k1), .val (.int (0 : Int32)), .val (.int (3 : Int32)), .val (.int (0 : Int32)), .val (.int (3 : Int32)), .val (.int (5 : Int32)), .val (.ref b120), .unset, .unset, .unset, .unset]) rfl ?_
  refine g_aload C at_155 (pc' := 157) rfl rfl rfl ?_
  refine g_iconst C (z := (0 : Int32)) at_157 (pc' := 158) rfl rfl ?_
  refine g_bipush C (z := (48 : Int32)) at_158 (pc' := 160) rfl rfl ?_
  refine g_bastore C A120 (by decide) (by decide) at_160 (pc' := 161) rfl gb120 (fun h121 W122 A120' => ?_)
  have X := X.wr W122 gb120
  have E_SEQUENCE := E_SEQUENCE.wr W122
  have F_SEQUENCE := F_SEQUENCE.other W122 (Or.inl ne_t_SEQUENCE_b120)
  have E_NULL := E_NULL.wr W122
  have F_NULL := F_NULL.other W122 (Or.inl ne_t_NULL_b120)
  have E_OCTET_STRING := E_OCTET_STRING.wr W122
  have F_OCTET_STRING := F_OCTET_STRING.other W122 (Or.inl ne_t_OCTET_STRING_b120)
  have A120 : Arf Z h121 b120 "[B" .byte (5 : Int32) (upd (fun _ => (.int 0)) 0 (.int (48 : Int32))) := A120'
  refine g_aload C at_161 (pc' := 163) rfl rfl rfl ?_
  refine g_iconst C (z := (1 : Int32)) at_163 (pc' := 164) rfl rfl ?_
  refine g_iload C at_164 (pc' := 166) rfl rfl ?_
  refine g_i2b C at_166 (pc' := 167) rfl ?_
  show Go w l _ n0 _ h121 1 5 167 #[.val (.int p0), .val (.int p1), .val (.int p2), .val (.int p3), .val (.int (1 : Int32)), .val (.int (1 : Int32)), .val (.int k1), .val (.int (0 : Int32)), .val (.int (3 : Int32)), .val (.int (0 : Int32)), .val (.int (3 : Int32)), .val (.int (5 : Int32)), .val (.ref b120), .unset, .unset, .unset, .unset] [(.int (3 : Int32)), (.int (1 : Int32)), (.ref b120)]
  refine g_bastore C A120 (by decide) (by decide) at_167 (pc' := 168) rfl gb120 (fun h123 W124 A120' => ?_)
  have X := X.wr W124 gb120
  have E_SEQUENCE := E_SEQUENCE.wr W124
  have F_SEQUENCE := F_SEQUENCE.other W124 (Or.inl ne_t_SEQUENCE_b120)
  have E_NULL := E_NULL.wr W124
  have F_NULL := F_NULL.other W124 (Or.inl ne_t_NULL_b120)
  have E_OCTET_STRING := E_OCTET_STRING.wr W124
  have F_OCTET_STRING := F_OCTET_STRING.other W124 (Or.inl ne_t_OCTET_STRING_b120)
  have A120 : Arf Z h123 b120 "[B" .byte (5 : Int32) (upd (upd (fun _ => (.int 0)) 0 (.int (48 : Int32))) 1 (.int (3 : Int32))) := A120'
  refine g_iconst C (z := (2 : Int32)) at_168 (pc' := 169) rfl rfl ?_
  refine g_istore C at_169 (pc' := 171) rfl (Ls' := #[.val (.int p0), .val (.int p1), .val (.int p2), .val (.int p3), .val (.int (1 : Int32)), .val (.int (1 : Int32)), .val (.int k1), .val (.int (0 : Int32)), .val (.int (3 : Int32)), .val (.int (0 : Int32)), .val (.int (3 : Int32)), .val (.int (5 : Int32)), .val (.ref b120), .val (.int (2 : Int32)), .unset, .unset, .unset]) rfl ?_
  refine g_iload C at_171 (pc' := 173) rfl rfl ?_
  refine g_if_le C at_173 (by decide) (pc' := 189) (by decide) (pcN := 176) rfl (fun q => absurd q (by decide)) (fun _ => ?_)
  refine g_aload C at_176 (pc' := 178) rfl rfl rfl ?_
  refine g_iload C at_178 (pc' := 180) rfl rfl ?_
  refine g_iload C at_180 (pc' := 182) rfl rfl ?_
  refine g_iloadN C at_182 (pc' := 183) rfl rfl ?_
  refine g_i2b C at_183 (pc' := 184) rfl ?_
  refine g_static (rm := R_m_put1) C (y := (⟨"com/example/sigillum/sigillum/codec/DerReaderHasMorePinLaw", "put", "([BIZB)I"⟩ : MethodName)) (hw _ (List.mem_of_getElem? (i := 54) rfl)) (hw _ (List.mem_of_getElem? (i := 55) rfl)) (hw _ (List.mem_of_getElem? (i := 56) rfl)) (hw _ (List.mem_of_getElem? (i := 57) rfl)) (by decide) at_184 (pc' := 187) rfl (argsL := [(.ref b120), (.int (2 : Int32)), (.int (1 : Int32)), (.int (p1.toInt8.toInt32))]) (rest := []) (lenOf pd_12 rfl) rfl (W := 0) (Nat.le_of_eq rfl) rfl (fun hn9 => Met.back (rm := R_m_put1) (m_put1 hw b120 (2 : Int32) (p1.toInt8.toInt32) (5 : Int32) (upd (upd (fun _ => (.int 0)) 0 (.int (48 : Int32))) 1 (.int (3 : Int32))) A120 gb120 (by decide) (by decide) (by decide) (by decide) (by decide) (by decide)) hn9 C.hZ (hw _ (List.mem_of_getElem? (i := 57) rfl)) (hw _ (List.mem_of_getElem? (i := 56) rfl)) (by decide) (by decide)) (k' := 1) (n' := 5) rfl rfl (by decide) (by decide) ?_
  rintro _ h125 ⟨rfl, Kp, Ap⟩
  have X := X.keep Kp (allS gb120 all0)
  have E_SEQUENCE := E_SEQUENCE.keep Kp
  have F_SEQUENCE := F_SEQUENCE.keep Kp (ninS ne_t_SEQUENCE_b120 nin0)
  have E_NULL := E_NULL.keep Kp
  have F_NULL := F_NULL.keep Kp (ninS ne_t_NULL_b120 nin0)
  have E_OCTET_STRING := E_OCTET_STRING.keep Kp
  have F_OCTET_STRING := F_OCTET_STRING.keep Kp (ninS ne_t_OCTET_STRING_b120 nin0)
  have A120 : Arf Z h125 b120 "[B" .byte (5 : Int32) (upd (upd (upd (upd (upd (fun _ => (.int 0)) 0 (.int (48 : Int32))) 1 (.int (3 : Int32))) 2 (.int (4 : Int32))) 3 (.int (1 : Int32))) 4 (.int (nar .byte (p1.toInt8.toInt32)))) := Ap
  show Go w l _ n0 _ h125 1 5 187 #[.val (.int p0), .val (.int p1), .val (.int p2), .val (.int p3), .val (.int (1 : Int32)), .val (.int (1 : Int32)), .val (.int k1), .val (.int (0 : Int32)), .val (.int (3 : Int32)), .val (.int (0 : Int32)), .val (.int (3 : Int32)), .val (.int (5 : Int32)), .val (.ref b120), .val (.int (2 : Int32)), .unset, .unset, .unset] [(.int (5 : Int32))]
  refine g_istore C at_187 (pc' := 189) rfl (Ls' := #[.val (.int p0), .val (.int p1), .val (.int p2), .val (.int p3), .val (.int (1 : Int32)), .val (.int (1 : Int32)), .val (.int k1), .val (.int (0 : Int32)), .val (.int (3 : Int32)), .val (.int (0 : Int32)), .val (.int (3 : Int32)), .val (.int (5 : Int32)), .val (.ref b120), .val (.int (5 : Int32)), .unset, .unset, .unset]) rfl ?_
  refine g_iload C at_189 (pc' := 191) rfl rfl ?_
  refine g_iconst C (z := (1 : Int32)) at_191 (pc' := 192) rfl rfl ?_
  refine g_icmp_le C at_192 (by decide) (pc' := 208) (by decide) (pcN := 195) rfl (fun _ => ?_) (fun q => absurd q (by decide))
  refine g_iload C at_208 (pc' := 210) rfl rfl ?_
  refine g_if_eq C at_210 (by decide) (pc' := 220) (by decide) (pcN := 213) rfl (fun _ => ?_) (fun q => absurd rfl q)
  refine g_new C (hw _ (List.mem_of_getElem? (i := 0) rfl)) (hw _ (List.mem_of_getElem? (i := 1) rfl)) (hw _ (List.mem_of_getElem? (i := 2) rfl)) at_220 (pc' := 223) rfl (k' := 2) (n' := 8) rfl rfl (by decide) (by decide) ?_
  intro h126 b126 E126 fb126 gb126 A126 D126
  have ne_t_SEQUENCE_b126 : t_SEQUENCE ≠ b126 := Nat.ne_of_lt (Nat.lt_of_lt_of_le E_SEQUENCE.lt fb126)
  have ne_t_NULL_b126 : t_NULL ≠ b126 := Nat.ne_of_lt (Nat.lt_of_lt_of_le E_NULL.lt fb126)
  have ne_t_OCTET_STRING_b126 : t_OCTET_STRING ≠ b126 := Nat.ne_of_lt (Nat.lt_of_lt_of_le E_OCTET_STRING.lt fb126)
  have ne_b120_b126 : b120 ≠ b126 := Nat.ne_of_lt (Nat.lt_of_lt_of_le A120.lt fb126)
  have X := X.ext E126
  have E_SEQUENCE := E_SEQUENCE.ext E126
  have F_SEQUENCE := F_SEQUENCE.ext E126
  have E_NULL := E_NULL.ext E126
  have F_NULL := F_NULL.ext E126
  have E_OCTET_STRING := E_OCTET_STRING.ext E126
  have F_OCTET_STRING := F_OCTET_STRING.ext E126
  have A120 := A120.ext E126
  have F126_der : Fld Z h126 b126 "com/example/sigillum/sigillum/codec/DerReader" "der" "[B" .null := D126 (Or.inr (hw _ (List.mem_of_getElem? (i := 23) rfl))) (ty := (.array .byte)) (by decide)
  have F126_position : Fld Z h126 b126 "com/example/sigillum/sigillum/codec/DerReader" "position" "I" (.int (0 : Int32)) := D126 (Or.inl (hw _ (List.mem_of_getElem? (i := 25) rfl))) (ty := .int) (by decide)
  have F126_end : Fld Z h126 b126 "com/example/sigillum/sigillum/codec/DerReader" "end" "I" (.int (0 : Int32)) := D126 (Or.inr (hw _ (List.mem_of_getElem? (i := 27) rfl))) (ty := .int) (by decide)
  refine g_dup C at_223 (pc' := 224) rfl rfl ?_
  refine g_aload C at_224 (pc' := 226) rfl rfl rfl ?_
  refine g_special (rm := R_m_init1) (a := b126) C (y := (⟨"com/example/sigillum/sigillum/codec/DerReader", "<init>", "([B)V"⟩ : MethodName)) rfl (hw _ (List.mem_of_getElem? (i := 4) rfl)) (hw _ (List.mem_of_getElem? (i := 5) rfl)) (hw _ (List.mem_of_getElem? (i := 6) rfl)) (by decide) at_226 (pc' := 229) rfl (argsL := [(.ref b120)]) (rest := [(.ref b126)]) (lenOf pd_10 rfl) rfl (W := 1) (Nat.le_of_eq rfl) rfl (fun hn9 => Met.back (rm := R_m_init1) (m_init1 hw b126 b120 (5 : Int32) (upd (upd (upd (upd (upd (fun _ => (.int 0)) 0 (.int (48 : Int32))) 1 (.int (3 : Int32))) 2 (.int (4 : Int32))) 3 (.int (1 : Int32))) 4 (.int (nar .byte (p1.toInt8.toInt32)))) ⟨A126, F126_der, F126_position, F126_end⟩ A120 (by decide) gb126) hn9 C.hZ (hw _ (List.mem_of_getElem? (i := 6) rfl)) (hw _ (List.mem_of_getElem? (i := 2) rfl)) (by decide) (by decide)) (k' := 3) (n' := 17) rfl rfl (by decide) (by decide) ?_
  rintro _ h127 ⟨rfl, Ki, t_b126, ft_b126, gt_b126, ⟨E_b126, F1_b126, F2_b126, F3_b126⟩, At_b126⟩
  have ne_t_SEQUENCE_t_b126 : t_SEQUENCE ≠ t_b126 := Nat.ne_of_lt (Nat.lt_of_lt_of_le E_SEQUENCE.lt ft_b126)
  have ne_t_NULL_t_b126 : t_NULL ≠ t_b126 := Nat.ne_of_lt (Nat.lt_of_lt_of_le E_NULL.lt ft_b126)
  have ne_t_OCTET_STRING_t_b126 : t_OCTET_STRING ≠ t_b126 := Nat.ne_of_lt (Nat.lt_of_lt_of_le E_OCTET_STRING.lt ft_b126)
  have ne_b120_t_b126 : b120 ≠ t_b126 := Nat.ne_of_lt (Nat.lt_of_lt_of_le A120.lt ft_b126)
  have ne_b126_t_b126 : b126 ≠ t_b126 := Nat.ne_of_lt (Nat.lt_of_lt_of_le A126.lt ft_b126)
  have X := X.keep Ki (allS gb126 all0)
  have E_SEQUENCE := E_SEQUENCE.keep Ki
  have F_SEQUENCE := F_SEQUENCE.keep Ki (ninS ne_t_SEQUENCE_b126 nin0)
  have E_NULL := E_NULL.keep Ki
  have F_NULL := F_NULL.keep Ki (ninS ne_t_NULL_b126 nin0)
  have E_OCTET_STRING := E_OCTET_STRING.keep Ki
  have F_OCTET_STRING := F_OCTET_STRING.keep Ki (ninS ne_t_OCTET_STRING_b126 nin0)
  have A120 := A120.keep Ki (ninS ne_b120_b126 nin0)
  have A126 := A126.keep Ki
  show Go w l _ n0 _ h127 3 17 229 #[.val (.int p0), .val (.int p1), .val (.int p2), .val (.int p3), .val (.int (1 : Int32)), .val (.int (1 : Int32)), .val (.int k1), .val (.int (0 : Int32)), .val (.int (3 : Int32)), .val (.int (0 : Int32)), .val (.int (3 : Int32)), .val (.int (5 : Int32)), .val (.ref b120), .val (.int (5 : Int32)), .unset, .unset, .unset] [(.ref b126)]
  refine g_astore C at_229 (pc' := 231) rfl rfl (Ls' := #[.val (.int p0), .val (.int p1), .val (.int p2), .val (.int p3), .val (.int (1 : Int32)), .val (.int (1 : Int32)), .val (.int k1), .val (.int (0 : Int32)), .val (.int (3 : Int32)), .val (.int (0 : Int32)), .val (.int (3 : Int32)), .val (.int (5 : Int32)), .val (.ref b120), .val (.int (5 : Int32)), .val (.ref b126), .unset, .unset]) rfl ?_
  refine g_aload C at_231 (pc' := 233) rfl rfl rfl ?_
  refine g_virtual (rm := R_m_hasMore) (a := b126) C (y := (⟨"com/example/sigillum/sigillum/codec/DerReader", "hasMore", "()Z"⟩ : MethodName)) (y' := (⟨"com/example/sigillum/sigillum/codec/DerReader", "hasMore", "()Z"⟩ : MethodName)) (hw _ (List.mem_of_getElem? (i := 28) rfl)) (hw _ (List.mem_of_getElem? (i := 29) rfl)) (g_nf C (hw _ (List.mem_of_getElem? (i := 31) rfl))) (hw _ (List.mem_of_getElem? (i := 31) rfl)) (hw _ (List.mem_of_getElem? (i := 30) rfl)) (by decide) E_b126 at_233 (pc' := 236) rfl (argsL := []) (rest := []) (lenOf pd_1 rfl) rfl (W := 0) (Nat.le_of_eq rfl) rfl (fun hn9 => Met.back (rm := R_m_hasMore) (m_hasMore hw b126 (0 : Int32) (5 : Int32) F2_b126 F3_b126) hn9 C.hZ (hw _ (List.mem_of_getElem? (i := 32) rfl)) (hw _ (List.mem_of_getElem? (i := 2) rfl)) (by decide) (by decide)) (k' := 3) (n' := 17) rfl rfl (by decide) (by decide) ?_
  rintro _ _ ⟨rfl, rfl⟩
  show Go w l _ n0 _ h127 3 17 236 #[.val (.int p0), .val (.int p1), .val (.int p2), .val (.int p3), .val (.int (1 : Int32)), .val (.int (1 : Int32)), .val (.int k1), .val (.int (0 : Int32)), .val (.int (3 : Int32)), .val (.int (0 : Int32)), .val (.int (3 : Int32)), .val (.int (5 : Int32)), .val (.ref b120), .val (.int (5 : Int32)), .val (.ref b126), .unset, .unset] [(.int (1 : Int32))]
  refine g_istore C at_236 (pc' := 238) rfl (Ls' := #[.val (.int p0), .val (.int p1), .val (.int p2), .val (.int p3), .val (.int (1 : Int32)), .val (.int (1 : Int32)), .val (.int k1), .val (.int (0 : Int32)), .val (.int (3 : Int32)), .val (.int (0 : Int32)), .val (.int (3 : Int32)), .val (.int (5 : Int32)), .val (.ref b120), .val (.int (5 : Int32)), .val (.ref b126), .val (.int (1 : Int32)), .unset]) rfl ?_
  refine g_aload C at_238 (pc' := 240) rfl rfl rfl ?_
  refine g_virtual (rm := R_m_seq) (a := b126) C (y := (⟨"com/example/sigillum/sigillum/codec/DerReader", "sequence", "()Lcom/example/sigillum/sigillum/codec/DerReader;"⟩ : MethodName)) (y' := (⟨"com/example/sigillum/sigillum/codec/DerReader", "sequence", "()Lcom/example/sigillum/sigillum/codec/DerReader;"⟩ : MethodName)) (hw _ (List.mem_of_getElem? (i := 33) rfl)) (hw _ (List.mem_of_getElem? (i := 34) rfl)) (g_nf C (hw _ (List.mem_of_getElem? (i := 36) rfl))) (hw _ (List.mem_of_getElem? (i := 36) rfl)) (hw _ (List.mem_of_getElem? (i := 35) rfl)) (by decide) E_b126 at_240 (pc' := 243) rfl (argsL := []) (rest := []) (lenOf pd_11 rfl) rfl (W := 0) (Nat.le_of_eq rfl) rfl (fun hn9 => Met.back (rm := R_m_seq) (m_seq hw b126 t_b126 t_SEQUENCE (0 : Int32) (5 : Int32) (5 : Int32) (48 : Int32) (3 : Int32) (3 : Int32) (48 : Int32) (2 : Int32) (upd (upd (upd (upd (upd (fun _ => (.int 0)) 0 (.int (48 : Int32))) 1 (.int (3 : Int32))) 2 (.int (4 : Int32))) 3 (.int (1 : Int32))) 4 (.int (nar .byte (p1.toInt8.toInt32)))) (5 : Int32) ⟨E_b126, F1_b126, F2_b126, F3_b126⟩ At_b126 E_SEQUENCE F_SEQUENCE gb126 (Ne.symm ne_b126_t_b126) (by decide) (by decide) (by decide) rfl (by decide) (by decide) (by decide) (by decide) rfl (by decide) (by decide) (by decide) (by decide) (by decide) (S_SEQUENCE.ext X.2)) hn9 C.hZ (hw _ (List.mem_of_getElem? (i := 37) rfl)) (hw _ (List.mem_of_getElem? (i := 2) rfl)) (by decide) (by decide)) (k' := 4) (n' := 20) rfl rfl (by decide) (by decide) ?_
  rintro _ h128 ⟨sq, rfl, fsq, gsq, Ks, ⟨E_b126, F1_b126, F2_b126, F3_b126⟩, ⟨E_sq, F1_sq, F2_sq, F3_sq⟩⟩
  have ne_t_SEQUENCE_sq : t_SEQUENCE ≠ sq := Nat.ne_of_lt (Nat.lt_of_lt_of_le E_SEQUENCE.lt fsq)
  have ne_t_NULL_sq : t_NULL ≠ sq := Nat.ne_of_lt (Nat.lt_of_lt_of_le E_NULL.lt fsq)
  have ne_t_OCTET_STRING_sq : t_OCTET_STRING ≠ sq := Nat.ne_of_lt (Nat.lt_of_lt_of_le E_OCTET_STRING.lt fsq)
  have ne_b120_sq : b120 ≠ sq := Nat.ne_of_lt (Nat.lt_of_lt_of_le A120.lt fsq)
  have ne_t_b126_sq : t_b126 ≠ sq := Nat.ne_of_lt (Nat.lt_of_lt_of_le At_b126.lt fsq)
  have X := X.keep Ks (allS gb126 all0)
  have E_SEQUENCE := E_SEQUENCE.keep Ks
  have F_SEQUENCE := F_SEQUENCE.keep Ks (ninS ne_t_SEQUENCE_b126 nin0)
  have E_NULL := E_NULL.keep Ks
  have F_NULL := F_NULL.keep Ks (ninS ne_t_NULL_b126 nin0)
  have E_OCTET_STRING := E_OCTET_STRING.keep Ks
  have F_OCTET_STRING := F_OCTET_STRING.keep Ks (ninS ne_t_OCTET_STRING_b126 nin0)
  have A120 := A120.keep Ks (ninS ne_b120_b126 nin0)
  have At_b126 := At_b126.keep Ks (ninS (Ne.symm ne_b126_t_b126) nin0)
  show Go w l _ n0 _ h128 4 20 243 #[.val (.int p0), .val (.int p1), .val (.int p2), .val (.int p3), .val (.int (1 : Int32)), .val (.int (1 : Int32)), .val (.int k1), .val (.int (0 : Int32)), .val (.int (3 : Int32)), .val (.int (0 : Int32)), .val (.int (3 : Int32)), .val (.int (5 : Int32)), .val (.ref b120), .val (.int (5 : Int32)), .val (.ref b126), .val (.int (1 : Int32)), .unset] [(.ref sq)]
  refine g_astore C at_243 (pc' := 245) rfl rfl (Ls' := #[.val (.int p0), .val (.int p1), .val (.int p2), .val (.int p3), .val (.int (1 : Int32)), .val (.int (1 : Int32)), .val (.int k1), .val (.int (0 : Int32)), .val (.int (3 : Int32)), .val (.int (0 : Int32)), .val (.int (3 : Int32)), .val (.int (5 : Int32)), .val (.ref b120), .val (.int (5 : Int32)), .val (.ref b126), .val (.int (1 : Int32)), .val (.ref sq)]) rfl ?_
  refine g_iload C at_245 (pc' := 247) rfl rfl ?_
  refine g_if_eq C at_247 (by decide) (pc' := 264) (by decide) (pcN := 250) rfl (fun q => absurd q (by decide)) (fun _ => ?_)
  refine g_aload C at_250 (pc' := 252) rfl rfl rfl ?_
  refine g_virtual (rm := R_m_hasMore) (a := b126) C (y := (⟨"com/example/sigillum/sigillum/codec/DerReader", "hasMore", "()Z"⟩ : MethodName)) (y' := (⟨"com/example/sigillum/sigillum/codec/DerReader", "hasMore", "()Z"⟩ : MethodName)) (hw _ (List.mem_of_getElem? (i := 28) rfl)) (hw _ (List.mem_of_getElem? (i := 29) rfl)) (g_nf C (hw _ (List.mem_of_getElem? (i := 31) rfl))) (hw _ (List.mem_of_getElem? (i := 31) rfl)) (hw _ (List.mem_of_getElem? (i := 30) rfl)) (by decide) E_b126 at_252 (pc' := 255) rfl (argsL := []) (rest := []) (lenOf pd_1 rfl) rfl (W := 0) (Nat.le_of_eq rfl) rfl (fun hn9 => Met.back (rm := R_m_hasMore) (m_hasMore hw b126 (5 : Int32) (5 : Int32) F2_b126 F3_b126) hn9 C.hZ (hw _ (List.mem_of_getElem? (i := 32) rfl)) (hw _ (List.mem_of_getElem? (i := 2) rfl)) (by decide) (by decide)) (k' := 4) (n' := 20) rfl rfl (by decide) (by decide) ?_
  rintro _ _ ⟨rfl, rfl⟩
  show Go w l _ n0 _ h128 4 20 255 #[.val (.int p0), .val (.int p1), .val (.int p2), .val (.int p3), .val (.int (1 : Int32)), .val (.int (1 : Int32)), .val (.int k1), .val (.int (0 : Int32)), .val (.int (3 : Int32)), .val (.int (0 : Int32)), .val (.int (3 : Int32)), .val (.int (5 : Int32)), .val (.ref b120), .val (.int (5 : Int32)), .val (.ref b126), .val (.int (1 : Int32)), .val (.ref sq)] [(.int (0 : Int32))]
  refine g_iload C at_255 (pc' := 257) rfl rfl ?_
  refine g_icmp_ne C at_257 (by decide) (pc' := 264) (by decide) (pcN := 260) rfl (fun q => absurd rfl q) (fun _ => ?_)
  refine g_iconst C (z := (1 : Int32)) at_260 (pc' := 261) rfl rfl ?_
  refine g_goto C at_261 (by decide) (pc' := 265) (by decide) ?_
  refine g_istore C at_265 (pc' := 267) rfl (Ls' := #[.val (.int p0), .val (.int p1), .val (.int p2), .val (.int p3), .val (.int (1 : Int32)), .val (.int (1 : Int32)), .val (.int k1), .val (.int (0 : Int32)), .val (.int (3 : Int32)), .val (.int (0 : Int32)), .val (.int (3 : Int32)), .val (.int (5 : Int32)), .val (.ref b120), .val (.int (5 : Int32)), .val (.ref b126), .val (.int (1 : Int32)), .val (.ref sq)]) rfl ?_
  refine g_iload C at_267 (pc' := 269) rfl rfl ?_
  refine g_if_eq C at_269 (by decide) (pc' := 294) (by decide) (pcN := 272) rfl (fun q => absurd q (by decide)) (fun _ => ?_)
  refine g_aload C at_272 (pc' := 274) rfl rfl rfl ?_
  refine g_virtual (rm := R_m_hasMore) (a := sq) C (y := (⟨"com/example/sigillum/sigillum/codec/DerReader", "hasMore", "()Z"⟩ : MethodName)) (y' := (⟨"com/example/sigillum/sigillum/codec/DerReader", "hasMore", "()Z"⟩ : MethodName)) (hw _ (List.mem_of_getElem? (i := 28) rfl)) (hw _ (List.mem_of_getElem? (i := 29) rfl)) (g_nf C (hw _ (List.mem_of_getElem? (i := 31) rfl))) (hw _ (List.mem_of_getElem? (i := 31) rfl)) (hw _ (List.mem_of_getElem? (i := 30) rfl)) (by decide) E_sq at_274 (pc' := 277) rfl (argsL := []) (rest := []) (lenOf pd_1 rfl) rfl (W := 0) (Nat.le_of_eq rfl) rfl (fun hn9 => Met.back (rm := R_m_hasMore) (m_hasMore hw sq (2 : Int32) (5 : Int32) F2_sq F3_sq) hn9 C.hZ (hw _ (List.mem_of_getElem? (i := 32) rfl)) (hw _ (List.mem_of_getElem? (i := 2) rfl)) (by decide) (by decide)) (k' := 4) (n' := 20) rfl rfl (by decide) (by decide) ?_
  rintro _ _ ⟨rfl, rfl⟩
  show Go w l _ n0 _ h128 4 20 277 #[.val (.int p0), .val (.int p1), .val (.int p2), .val (.int p3), .val (.int (1 : Int32)), .val (.int (1 : Int32)), .val (.int k1), .val (.int (0 : Int32)), .val (.int (3 : Int32)), .val (.int (0 : Int32)), .val (.int (3 : Int32)), .val (.int (5 : Int32)), .val (.ref b120), .val (.int (5 : Int32)), .val (.ref b126), .val (.int (1 : Int32)), .val (.ref sq)] [(.int (1 : Int32))]
  refine g_iload C at_277 (pc' := 279) rfl rfl ?_
  refine g_if_le C at_279 (by decide) (pc' := 286) (by decide) (pcN := 282) rfl (fun q => absurd q (by decide)) (fun _ => ?_)
  refine g_iconst C (z := (1 : Int32)) at_282 (pc' := 283) rfl rfl ?_
  refine g_goto C at_283 (by decide) (pc' := 287) (by decide) ?_
  refine g_icmp_ne C at_287 (by decide) (pc' := 294) (by decide) (pcN := 290) rfl (fun q => absurd rfl q) (fun _ => ?_)
  refine g_iconst C (z := (1 : Int32)) at_290 (pc' := 291) rfl rfl ?_
  refine g_goto C at_291 (by decide) (pc' := 295) (by decide) ?_
  refine g_istore C at_295 (pc' := 297) rfl (Ls' := #[.val (.int p0), .val (.int p1), .val (.int p2), .val (.int p3), .val (.int (1 : Int32)), .val (.int (1 : Int32)), .val (.int k1), .val (.int (0 : Int32)), .val (.int (3 : Int32)), .val (.int (0 : Int32)), .val (.int (3 : Int32)), .val (.int (5 : Int32)), .val (.ref b120), .val (.int (5 : Int32)), .val (.ref b126), .val (.int (1 : Int32)), .val (.ref sq)]) rfl ?_
  refine g_iload C at_297 (pc' := 299) rfl rfl ?_
  refine g_if_le C at_299 (by decide) (pc' := 340) (by decide) (pcN := 302) rfl (fun q => absurd q (by decide)) (fun _ => ?_)
  refine g_aload C at_302 (pc' := 304) rfl rfl rfl ?_
  refine g_iload C at_304 (pc' := 306) rfl rfl ?_
  refine g_static (rm := R_m_read1) C (y := (⟨"com/example/sigillum/sigillum/codec/DerReaderHasMorePinLaw", "read", "(Lcom/example/sigillum/sigillum/codec/DerReader;Z)V"⟩ : MethodName)) (hw _ (List.mem_of_getElem? (i := 58) rfl)) (hw _ (List.mem_of_getElem? (i := 59) rfl)) (hw _ (List.mem_of_getElem? (i := 56) rfl)) (hw _ (List.mem_of_getElem? (i := 60) rfl)) (by decide) at_306 (pc' := 309) rfl (argsL := [(.ref sq), (.int (1 : Int32))]) (rest := []) (lenOf pd_13 rfl) rfl (W := 0) (Nat.le_of_eq rfl) rfl (fun hn9 => Met.back (rm := R_m_read1) (m_read1 hw sq t_b126 t_OCTET_STRING (2 : Int32) (5 : Int32) (5 : Int32) (4 : Int32) (1 : Int32) (1 : Int32) (4 : Int32) (4 : Int32) (upd (upd (upd (upd (upd (fun _ => (.int 0)) 0 (.int (48 : Int32))) 1 (.int (3 : Int32))) 2 (.int (4 : Int32))) 3 (.int (1 : Int32))) 4 (.int (nar .byte (p1.toInt8.toInt32)))) ⟨E_sq, F1_sq, F2_sq, F3_sq⟩ At_b126 E_OCTET_STRING F_OCTET_STRING gsq ne_t_b126_sq (by decide) (by decide) (by decide) rfl (by decide) (by decide) (by decide) (by decide) rfl (by decide) (by decide) (by decide) (by decide) (5 : Int32) (1 : Int32) (by decide) (by decide) (by decide) (by decide) (by decide) (by decide) (by decide) (by decide) (by decide) (by decide) (by decide) (S_OCTET_STRING.ext X.2)) hn9 C.hZ (hw _ (List.mem_of_getElem? (i := 60) rfl)) (hw _ (List.mem_of_getElem? (i := 56) rfl)) (by decide) (by decide)) (k' := 5) (n' := 23) rfl rfl (by decide) (by decide) ?_
  rintro _ h129 ⟨rfl, Kr, ⟨E_sq, F1_sq, F2_sq, F3_sq⟩⟩
  have X := X.keep Kr (allS gsq all0)
  have E_SEQUENCE := E_SEQUENCE.keep Kr
  have F_SEQUENCE := F_SEQUENCE.keep Kr (ninS ne_t_SEQUENCE_sq nin0)
  have E_NULL := E_NULL.keep Kr
  have F_NULL := F_NULL.keep Kr (ninS ne_t_NULL_sq nin0)
  have E_OCTET_STRING := E_OCTET_STRING.keep Kr
  have F_OCTET_STRING := F_OCTET_STRING.keep Kr (ninS ne_t_OCTET_STRING_sq nin0)
  have A120 := A120.keep Kr (ninS ne_b120_sq nin0)
  have At_b126 := At_b126.keep Kr (ninS ne_t_b126_sq nin0)
  have E_b126 := E_b126.keep Kr
  show Go w l _ n0 _ h129 5 23 309 #[.val (.int p0), .val (.int p1), .val (.int p2), .val (.int p3), .val (.int (1 : Int32)), .val (.int (1 : Int32)), .val (.int k1), .val (.int (0 : Int32)), .val (.int (3 : Int32)), .val (.int (0 : Int32)), .val (.int (3 : Int32)), .val (.int (5 : Int32)), .val (.ref b120), .val (.int (5 : Int32)), .val (.ref b126), .val (.int (1 : Int32)), .val (.ref sq)] []
  refine g_iload C at_309 (pc' := 311) rfl rfl ?_
  refine g_if_eq C at_311 (by decide) (pc' := 337) (by decide) (pcN := 314) rfl (fun q => absurd q (by decide)) (fun _ => ?_)
  refine g_aload C at_314 (pc' := 316) rfl rfl rfl ?_
  refine g_virtual (rm := R_m_hasMore) (a := sq) C (y := (⟨"com/example/sigillum/sigillum/codec/DerReader", "hasMore", "()Z"⟩ : MethodName)) (y' := (⟨"com/example/sigillum/sigillum/codec/DerReader", "hasMore", "()Z"⟩ : MethodName)) (hw _ (List.mem_of_getElem? (i := 28) rfl)) (hw _ (List.mem_of_getElem? (i := 29) rfl)) (g_nf C (hw _ (List.mem_of_getElem? (i := 31) rfl))) (hw _ (List.mem_of_getElem? (i := 31) rfl)) (hw _ (List.mem_of_getElem? (i := 30) rfl)) (by decide) E_sq at_316 (pc' := 319) rfl (argsL := []) (rest := []) (lenOf pd_1 rfl) rfl (W := 0) (Nat.le_of_eq rfl) rfl (fun hn9 => Met.back (rm := R_m_hasMore) (m_hasMore hw sq (5 : Int32) (5 : Int32) F2_sq F3_sq) hn9 C.hZ (hw _ (List.mem_of_getElem? (i := 32) rfl)) (hw _ (List.mem_of_getElem? (i := 2) rfl)) (by decide) (by decide)) (k' := 5) (n' := 23) rfl rfl (by decide) (by decide) ?_
  rintro _ _ ⟨rfl, rfl⟩
  show Go w l _ n0 _ h129 5 23 319 #[.val (.int p0), .val (.int p1), .val (.int p2), .val (.int p3), .val (.int (1 : Int32)), .val (.int (1 : Int32)), .val (.int k1), .val (.int (0 : Int32)), .val (.int (3 : Int32)), .val (.int (0 : Int32)), .val (.int (3 : Int32)), .val (.int (5 : Int32)), .val (.ref b120), .val (.int (5 : Int32)), .val (.ref b126), .val (.int (1 : Int32)), .val (.ref sq)] [(.int (0 : Int32))]
  refine g_iload C at_319 (pc' := 321) rfl rfl ?_
  refine g_iconst C (z := (1 : Int32)) at_321 (pc' := 322) rfl rfl ?_
  refine g_icmp_le C at_322 (by decide) (pc' := 329) (by decide) (pcN := 325) rfl (fun _ => ?_) (fun q => absurd q (by decide))
  refine g_iconst C (z := (0 : Int32)) at_329 (pc' := 330) rfl rfl ?_
  refine g_icmp_ne C at_330 (by decide) (pc' := 337) (by decide) (pcN := 333) rfl (fun q => absurd rfl q) (fun _ => ?_)
  refine g_iconst C (z := (1 : Int32)) at_333 (pc' := 334) rfl rfl ?_
  refine g_goto C at_334 (by decide) (pc' := 338) (by decide) ?_
  refine g_istore C at_338 (pc' := 340) rfl (Ls' := #[.val (.int p0), .val (.int p1), .val (.int p2), .val (.int p3), .val (.int (1 : Int32)), .val (.int (1 : Int32)), .val (.int k1), .val (.int (0 : Int32)), .val (.int (3 : Int32)), .val (.int (0 : Int32)), .val (.int (3 : Int32)), .val (.int (5 : Int32)), .val (.ref b120), .val (.int (5 : Int32)), .val (.ref b126), .val (.int (1 : Int32)), .val (.ref sq)]) rfl ?_
  refine g_iload C at_340 (pc' := 342) rfl rfl ?_
  refine g_iconst C (z := (1 : Int32)) at_342 (pc' := 343) rfl rfl ?_
  refine g_icmp_le C at_343 (by decide) (pc' := 373) (by decide) (pcN := 346) rfl (fun _ => ?_) (fun q => absurd q (by decide))
  refine g_iload C at_373 (pc' := 375) rfl rfl ?_
  exact g_retN C (t := .boolean) rfl (by simp) at_375 rfl (by decide) (by decide)
set_option maxRecDepth 65536 in
set_option maxHeartbeats 40000000 in
theorem seg82_111 {l : Launch} {Z : State} {a0 : Array Value} (hw : ∀ d ∈ tables_1, d.before a0 Z = true) {w : Wk} {n0 : Nat} {h0 : Heap} {Y : State → Outcome → Prop} (p0 p1 p2 p3 k1 : Int32) (t_SEQUENCE t_NULL t_OCTET_STRING : Addr) (C : Cx w Z "com/example/sigillum/sigillum/codec/DerReaderHasMorePinLaw" code 17 (some .boolean) "law" room_1 n0 (fun v _ => v = some (.int 1)) Y) (X : Old Z n0 h0) (S_SEQUENCE : Sta Z Z.heap "com/example/sigillum/sigillum/codec/DerTag" "SEQUENCE" "Lcom/example/sigillum/sigillum/codec/DerTag;" (.ref t_SEQUENCE)) (E_SEQUENCE : Exa Z h0 t_SEQUENCE "com/example/sigillum/sigillum/codec/DerTag") (F_SEQUENCE : Fld Z h0 t_SEQUENCE "com/example/sigillum/sigillum/codec/DerTag" "identifier" "I" (.int 48)) (S_NULL : Sta Z Z.heap "com/example/sigillum/sigillum/codec/DerTag" "NULL" "Lcom/example/sigillum/sigillum/codec/DerTag;" (.ref t_NULL)) (E_NULL : Exa Z h0 t_NULL "com/example/sigillum/sigillum/codec/DerTag") (F_NULL : Fld Z h0 t_NULL "com/example/sigillum/sigillum/codec/DerTag" "identifier" "I" (.int 5)) (S_OCTET_STRING : Sta Z Z.heap "com/example/sigillum/sigillum/codec/DerTag" "OCTET_STRING" "Lcom/example/sigillum/sigillum/codec/DerTag;" (.ref t_OCTET_STRING)) (E_OCTET_STRING : Exa Z h0 t_OCTET_STRING "com/example/sigillum/sigillum/codec/DerTag") (F_OCTET_STRING : Fld Z h0 t_OCTET_STRING "com/example/sigillum/sigillum/codec/DerTag" "identifier" "I" (.int 4)) :
    Go w l room_1 n0 Y h0 0 0 82 #[.val (.int p0), .val (.int p1), .val (.int p2), .val (.int p3), .val (.int (1 : Int32)), .val (.int (1 : Int32)), .val (.int k1), .val (.int (1 : Int32)), .unset, .unset, .unset, .unset, .unset, .unset, .unset, .unset, .unset] [] := by
  refine g_iload C at_82 (pc' := 84) rfl rfl ?_
  refine g_if_le C at_84 (by decide) (pc' := 100) (by decide) (pcN := 87) rfl (fun q => absurd q (by decide)) (fun _ => ?_)
  refine g_iload C at_87 (pc' := 89) rfl rfl ?_
  refine g_if_eq C at_89 (by decide) (pc' := 96) (by decide) (pcN := 92) rfl (fun q => absurd q (by decide)) (fun _ => ?_)
  refine g_iconst C (z := (3 : Int32)) at_92 (pc' := 93) rfl rfl ?_
  refine g_goto C at_93 (by decide) (pc' := 101) (by decide) ?_
  refine g_istore C at_101 (pc' := 103) rfl (Ls' := #[.val (.int p0), .val (.int p1), .val (.int p2), .val (.int p3), .val (.int (1 : Int32)), .val (.int (1 : Int32)), .val (.int k1), .val (.int (1 : Int32)), .val (.int (3 : Int32)), .unset, .unset, .unset, .unset, .unset, .unset, .unset, .unset]) rfl ?_
  refine g_iload C at_103 (pc' := 105) rfl rfl ?_
  refine g_iconst C (z := (1 : Int32)) at_105 (pc' := 106) rfl rfl ?_
  refine g_icmp_le C at_106 (by decide) (pc' := 122) (by decide) (pcN := 109) rfl (fun _ => ?_) (fun q => absurd q (by decide))
  refine g_iconst C (z := (0 : Int32)) at_122 (pc' := 123) rfl rfl ?_
  refine g_istore C at_123 (pc' := 125) rfl (Ls' := #[.val (.int p0), .val (.int p1), .val (.int p2), .val (.int p3), .val (.int (1 : Int32)), .val (.int (1 : Int32)), .val (.int k1), .val (.int (1 : Int32)), .val (.int (3 : Int32)), .val (.int (0 : Int32)), .unset, .unset, .unset, .unset, .unset, .unset, .unset]) rfl ?_
  refine g_iload C at_125 (pc' := 127) rfl rfl ?_
  refine g_iload C at_127 (pc' := 129) rfl rfl ?_
  refine g_iadd C at_129 (pc' := 130) rfl ?_
  show Go w l _ n0 _ h0 0 0 130 #[.val (.int p0), .val (.int p1), .val (.int p2), .val (.int p3), .val (.int (1 : Int32)), .val (.int (1 : Int32)), .val (.int k1), .val (.int (1 : Int32)), .val (.int (3 : Int32)), .val (.int (0 : Int32)), .unset, .unset, .unset, .unset, .unset, .unset, .unset] [(.int (3 : Int32))]
  refine g_istore C at_130 (pc' := 132) rfl (Ls' := #[.val (.int p0), .val (.int p1), .val (.int p2), .val (.int p3), .val (.int (1 : Int32)), .val (.int (1 : Int32)), .val (.int k1), .val (.int (1 : Int32)), .val (.int (3 : Int32)), .val (.int (0 : Int32)), .val (.int (3 : Int32)), .unset, .unset, .unset, .unset, .unset, .unset]) rfl ?_
  refine g_iconst C (z := (2 : Int32)) at_132 (pc' := 133) rfl rfl ?_
  refine g_iload C at_133 (pc' := 135) rfl rfl ?_
  refine g_iadd C at_135 (pc' := 136) rfl ?_
  show Go w l _ n0 _ h0 0 0 136 #[.val (.int p0), .val (.int p1), .val (.int p2), .val (.int p3), .val (.int (1 : Int32)), .val (.int (1 : Int32)), .val (.int k1), .val (.int (1 : Int32)), .val (.int (3 : Int32)), .val (.int (0 : Int32)), .val (.int (3 : Int32)), .unset, .unset, .unset, .unset, .unset, .unset] [(.int (5 : Int32))]
  refine g_iload C at_136 (pc' := 138) rfl rfl ?_
  refine g_if_eq C at_138 (by decide) (pc' := 145) (by decide) (pcN := 141) rfl (fun q => absurd q (by decide)) (fun _ => ?_)
  refine g_iconst C (z := (1 : Int32)) at_141 (pc' := 142) rfl rfl ?_
  refine g_goto C at_142 (by decide) (pc' := 146) (by decide) ?_
  refine g_iadd C at_146 (pc' := 147) rfl ?_
  show Go w l _ n0 _ h0 0 0 147 #[.val (.int p0), .val (.int p1), .val (.int p2), .val (.int p3), .val (.int (1 : Int32)), .val (.int (1 : Int32)), .val (.int k1), .val (.int (1 : Int32)), .val (.int (3 : Int32)), .val (.int (0 : Int32)), .val (.int (3 : Int32)), .unset, .unset, .unset, .unset, .unset, .unset] [(.int (6 : Int32))]
  refine g_istore C at_147 (pc' := 149) rfl (Ls' := #[.val (.int p0), .val (.int p1), .val (.int p2), .val (.int p3), .val (.int (1 : Int32)), .val (.int (1 : Int32)), .val (.int k1), .val (.int (1 : Int32)), .val (.int (3 : Int32)), .val (.int (0 : Int32)), .val (.int (3 : Int32)), .val (.int (6 : Int32)), .unset, .unset, .unset, .unset, .unset]) rfl ?_
  refine g_iload C at_149 (pc' := 151) rfl rfl ?_
  refine g_newarr C (ad := "[B") (cap := 6) (hw _ (List.mem_of_getElem? (i := 3) rfl)) at_151 (pc' := 153) rfl rfl (by decide) (by decide) (by decide) (k' := 1) (n' := 6) rfl rfl (by decide) (by decide) rfl ?_
  intro h130 b130 E130 fb130 gb130 A130
  have ne_t_SEQUENCE_b130 : t_SEQUENCE ≠ b130 := Nat.ne_of_lt (Nat.lt_of_lt_of_le E_SEQUENCE.lt fb130)
  have ne_t_NULL_b130 : t_NULL ≠ b130 := Nat.ne_of_lt (Nat.lt_of_lt_of_le E_NULL.lt fb130)
  have ne_t_OCTET_STRING_b130 : t_OCTET_STRING ≠ b130 := Nat.ne_of_lt (Nat.lt_of_lt_of_le E_OCTET_STRING.lt fb130)
  have X := X.ext E130
  have E_SEQUENCE := E_SEQUENCE.ext E130
  have F_SEQUENCE := F_SEQUENCE.ext E130
  have E_NULL := E_NULL.ext E130
  have F_NULL := F_NULL.ext E130
  have E_OCTET_STRING := E_OCTET_STRING.ext E130
  have F_OCTET_STRING := F_OCTET_STRING.ext E130
  have A130 : Arf Z h130 b130 "[B" .byte (6 : Int32) (fun _ => (.int 0)) := A130
  refine g_astore C at_153 (pc' := 155) rfl rfl (Ls' := #[.val (.int p0), .val (.int p1), .val (.int p2), .val (.int p3), .val (.int (1 : Int32)), .val (.int (1 : Int32)), .val (.int k1), .val (.int (1 : Int32)), .val (.int (3 : Int32)), .val (.int (0 : Int32)), .val (.int (3 : Int32)), .val (.int (6 : Int32)), .val (.ref b130), .unset, .unset, .unset, .unset]) rfl ?_
  refine g_aload C at_155 (pc' := 157) rfl rfl rfl ?_
  refine g_iconst C (z := (0 : Int32)) at_157 (pc' := 158) rfl rfl ?_
  refine g_bipush C (z := (48 : Int32)) at_158 (pc' := 160) rfl rfl ?_
  refine g_bastore C A130 (by decide) (by decide) at_160 (pc' := 161) rfl gb130 (fun h131 W132 A130' => ?_)
  have X := X.wr W132 gb130
  have E_SEQUENCE := E_SEQUENCE.wr W132
  have F_SEQUENCE := F_SEQUENCE.other W132 (Or.inl ne_t_SEQUENCE_b130)
  have E_NULL := E_NULL.wr W132
  have F_NULL := F_NULL.other W132 (Or.inl ne_t_NULL_b130)
  have E_OCTET_STRING := E_OCTET_STRING.wr W132
  have F_OCTET_STRING := F_OCTET_STRING.other W132 (Or.inl ne_t_OCTET_STRING_b130)
  have A130 : Arf Z h131 b130 "[B" .byte (6 : Int32) (upd (fun _ => (.int 0)) 0 (.int (48 : Int32))) := A130'
  refine g_aload C at_161 (pc' := 163) rfl rfl rfl ?_
  refine g_iconst C (z := (1 : Int32)) at_163 (pc' := 164) rfl rfl ?_
  refine g_iload C at_164 (pc' := 166) rfl rfl ?_
  refine g_i2b C at_166 (pc' := 167) rfl ?_
  show Go w l _ n0 _ h131 1 6 167 #[.val (.int p0), .val (.int p1), .val (.int p2), .val (.int p3), .val (.int (1 : Int32)), .val (.int (1 : Int32)), .val (.int k1), .val (.int (1 : Int32)), .val (.int (3 : Int32)), .val (.int (0 : Int32)), .val (.int (3 : Int32)), .val (.int (6 : Int32)), .val (.ref b130), .unset, .unset, .unset, .unset] [(.int (3 : Int32)), (.int (1 : Int32)), (.ref b130)]
  refine g_bastore C A130 (by decide) (by decide) at_167 (pc' := 168) rfl gb130 (fun h133 W134 A130' => ?_)
  have X := X.wr W134 gb130
  have E_SEQUENCE := E_SEQUENCE.wr W134
  have F_SEQUENCE := F_SEQUENCE.other W134 (Or.inl ne_t_SEQUENCE_b130)
  have E_NULL := E_NULL.wr W134
  have F_NULL := F_NULL.other W134 (Or.inl ne_t_NULL_b130)
  have E_OCTET_STRING := E_OCTET_STRING.wr W134
  have F_OCTET_STRING := F_OCTET_STRING.other W134 (Or.inl ne_t_OCTET_STRING_b130)
  have A130 : Arf Z h133 b130 "[B" .byte (6 : Int32) (upd (upd (fun _ => (.int 0)) 0 (.int (48 : Int32))) 1 (.int (3 : Int32))) := A130'
  refine g_iconst C (z := (2 : Int32)) at_168 (pc' := 169) rfl rfl ?_
  refine g_istore C at_169 (pc' := 171) rfl (Ls' := #[.val (.int p0), .val (.int p1), .val (.int p2), .val (.int p3), .val (.int (1 : Int32)), .val (.int (1 : Int32)), .val (.int k1), .val (.int (1 : Int32)), .val (.int (3 : Int32)), .val (.int (0 : Int32)), .val (.int (3 : Int32)), .val (.int (6 : Int32)), .val (.ref b130), .val (.int (2 : Int32)), .unset, .unset, .unset]) rfl ?_
  refine g_iload C at_171 (pc' := 173) rfl rfl ?_
  refine g_if_le C at_173 (by decide) (pc' := 189) (by decide) (pcN := 176) rfl (fun q => absurd q (by decide)) (fun _ => ?_)
  refine g_aload C at_176 (pc' := 178) rfl rfl rfl ?_
  refine g_iload C at_178 (pc' := 180) rfl rfl ?_
  refine g_iload C at_180 (pc' := 182) rfl rfl ?_
  refine g_iloadN C at_182 (pc' := 183) rfl rfl ?_
  refine g_i2b C at_183 (pc' := 184) rfl ?_
  refine g_static (rm := R_m_put1) C (y := (⟨"com/example/sigillum/sigillum/codec/DerReaderHasMorePinLaw", "put", "([BIZB)I"⟩ : MethodName)) (hw _ (List.mem_of_getElem? (i := 54) rfl)) (hw _ (List.mem_of_getElem? (i := 55) rfl)) (hw _ (List.mem_of_getElem? (i := 56) rfl)) (hw _ (List.mem_of_getElem? (i := 57) rfl)) (by decide) at_184 (pc' := 187) rfl (argsL := [(.ref b130), (.int (2 : Int32)), (.int (1 : Int32)), (.int (p1.toInt8.toInt32))]) (rest := []) (lenOf pd_12 rfl) rfl (W := 0) (Nat.le_of_eq rfl) rfl (fun hn9 => Met.back (rm := R_m_put1) (m_put1 hw b130 (2 : Int32) (p1.toInt8.toInt32) (6 : Int32) (upd (upd (fun _ => (.int 0)) 0 (.int (48 : Int32))) 1 (.int (3 : Int32))) A130 gb130 (by decide) (by decide) (by decide) (by decide) (by decide) (by decide)) hn9 C.hZ (hw _ (List.mem_of_getElem? (i := 57) rfl)) (hw _ (List.mem_of_getElem? (i := 56) rfl)) (by decide) (by decide)) (k' := 1) (n' := 6) rfl rfl (by decide) (by decide) ?_
  rintro _ h135 ⟨rfl, Kp, Ap⟩
  have X := X.keep Kp (allS gb130 all0)
  have E_SEQUENCE := E_SEQUENCE.keep Kp
  have F_SEQUENCE := F_SEQUENCE.keep Kp (ninS ne_t_SEQUENCE_b130 nin0)
  have E_NULL := E_NULL.keep Kp
  have F_NULL := F_NULL.keep Kp (ninS ne_t_NULL_b130 nin0)
  have E_OCTET_STRING := E_OCTET_STRING.keep Kp
  have F_OCTET_STRING := F_OCTET_STRING.keep Kp (ninS ne_t_OCTET_STRING_b130 nin0)
  have A130 : Arf Z h135 b130 "[B" .byte (6 : Int32) (upd (upd (upd (upd (upd (fun _ => (.int 0)) 0 (.int (48 : Int32))) 1 (.int (3 : Int32))) 2 (.int (4 : Int32))) 3 (.int (1 : Int32))) 4 (.int (nar .byte (p1.toInt8.toInt32)))) := Ap
  show Go w l _ n0 _ h135 1 6 187 #[.val (.int p0), .val (.int p1), .val (.int p2), .val (.int p3), .val (.int (1 : Int32)), .val (.int (1 : Int32)), .val (.int k1), .val (.int (1 : Int32)), .val (.int (3 : Int32)), .val (.int (0 : Int32)), .val (.int (3 : Int32)), .val (.int (6 : Int32)), .val (.ref b130), .val (.int (2 : Int32)), .unset, .unset, .unset] [(.int (5 : Int32))]
  refine g_istore C at_187 (pc' := 189) rfl (Ls' := #[.val (.int p0), .val (.int p1), .val (.int p2), .val (.int p3), .val (.int (1 : Int32)), .val (.int (1 : Int32)), .val (.int k1), .val (.int (1 : Int32)), .val (.int (3 : Int32)), .val (.int (0 : Int32)), .val (.int (3 : Int32)), .val (.int (6 : Int32)), .val (.ref b130), .val (.int (5 : Int32)), .unset, .unset, .unset]) rfl ?_
  refine g_iload C at_189 (pc' := 191) rfl rfl ?_
  refine g_iconst C (z := (1 : Int32)) at_191 (pc' := 192) rfl rfl ?_
  refine g_icmp_le C at_192 (by decide) (pc' := 208) (by decide) (pcN := 195) rfl (fun _ => ?_) (fun q => absurd q (by decide))
  refine g_iload C at_208 (pc' := 210) rfl rfl ?_
  refine g_if_eq C at_210 (by decide) (pc' := 220) (by decide) (pcN := 213) rfl (fun q => absurd q (by decide)) (fun _ => ?_)
  refine g_aload C at_213 (pc' := 215) rfl rfl rfl ?_
  refine g_iload C at_215 (pc' := 217) rfl rfl ?_
  refine g_iloadN C at_217 (pc' := 218) rfl rfl ?_
  refine g_i2b C at_218 (pc' := 219) rfl ?_
  refine g_bastore C A130 (by decide) (by decide) at_219 (pc' := 220) rfl gb130 (fun h136 W137 A130' => ?_)
  have X := X.wr W137 gb130
  have E_SEQUENCE := E_SEQUENCE.wr W137
  have F_SEQUENCE := F_SEQUENCE.other W137 (Or.inl ne_t_SEQUENCE_b130)
  have E_NULL := E_NULL.wr W137
  have F_NULL := F_NULL.other W137 (Or.inl ne_t_NULL_b130)
  have E_OCTET_STRING := E_OCTET_STRING.wr W137
  have F_OCTET_STRING := F_OCTET_STRING.other W137 (Or.inl ne_t_OCTET_STRING_b130)
  have A130 : Arf Z h136 b130 "[B" .byte (6 : Int32) (upd (upd (upd (upd (upd (upd (fun _ => (.int 0)) 0 (.int (48 : Int32))) 1 (.int (3 : Int32))) 2 (.int (4 : Int32))) 3 (.int (1 : Int32))) 4 (.int (nar .byte (p1.toInt8.toInt32)))) 5 (.int (nar .byte (p3.toInt8.toInt32)))) := A130'
  refine g_new C (hw _ (List.mem_of_getElem? (i := 0) rfl)) (hw _ (List.mem_of_getElem? (i := 1) rfl)) (hw _ (List.mem_of_getElem? (i := 2) rfl)) at_220 (pc' := 223) rfl (k' := 2) (n' := 9) rfl rfl (by decide) (by decide) ?_
  intro h138 b138 E138 fb138 gb138 A138 D138
  have ne_t_SEQUENCE_b138 : t_SEQUENCE ≠ b138 := Nat.ne_of_lt (Nat.lt_of_lt_of_le E_SEQUENCE.lt fb138)
  have ne_t_NULL_b138 : t_NULL ≠ b138 := Nat.ne_of_lt (Nat.lt_of_lt_of_le E_NULL.lt fb138)
  have ne_t_OCTET_STRING_b138 : t_OCTET_STRING ≠ b138 := Nat.ne_of_lt (Nat.lt_of_lt_of_le E_OCTET_STRING.lt fb138)
  have ne_b130_b138 : b130 ≠ b138 := Nat.ne_of_lt (Nat.lt_of_lt_of_le A130.lt fb138)
  have X := X.ext E138
  have E_SEQUENCE := E_SEQUENCE.ext E138
  have F_SEQUENCE := F_SEQUENCE.ext E138
  have E_NULL := E_NULL.ext E138
  have F_NULL := F_NULL.ext E138
  have E_OCTET_STRING := E_OCTET_STRING.ext E138
  have F_OCTET_STRING := F_OCTET_STRING.ext E138
  have A130 := A130.ext E138
  have F138_der : Fld Z h138 b138 "com/example/sigillum/sigillum/codec/DerReader" "der" "[B" .null := D138 (Or.inr (hw _ (List.mem_of_getElem? (i := 23) rfl))) (ty := (.array .byte)) (by decide)
  have F138_position : Fld Z h138 b138 "com/example/sigillum/sigillum/codec/DerReader" "position" "I" (.int (0 : Int32)) := D138 (Or.inl (hw _ (List.mem_of_getElem? (i := 25) rfl))) (ty := .int) (by decide)
  have F138_end : Fld Z h138 b138 "com/example/sigillum/sigillum/codec/DerReader" "end" "I" (.int (0 : Int32)) := D138 (Or.inr (hw _ (List.mem_of_getElem? (i := 27) rfl))) (ty := .int) (by decide)
  refine g_dup C at_223 (pc' := 224) rfl rfl ?_
  refine g_aload C at_224 (pc' := 226) rfl rfl rfl ?_
  refine g_special (rm := R_m_init1) (a := b138) C (y := (⟨"com/example/sigillum/sigillum/codec/DerReader", "<init>", "([B)V"⟩ : MethodName)) rfl (hw _ (List.mem_of_getElem? (i := 4) rfl)) (hw _ (List.mem_of_getElem? (i := 5) rfl)) (hw _ (List.mem_of_getElem? (i := 6) rfl)) (by decide) at_226 (pc' := 229) rfl (argsL := [(.ref b130)]) (rest := [(.ref b138)]) (lenOf pd_10 rfl) rfl (W := 1) (Nat.le_of_eq rfl) rfl (fun hn9 => Met.back (rm := R_m_init1) (m_init1 hw b138 b130 (6 : Int32) (upd (upd (upd (upd (upd (upd (fun _ => (.int 0)) 0 (.int (48 : Int32))) 1 (.int (3 : Int32))) 2 (.int (4 : Int32))) 3 (.int (1 : Int32))) 4 (.int (nar .byte (p1.toInt8.toInt32)))) 5 (.int (nar .byte (p3.toInt8.toInt32)))) ⟨A138, F138_der, F138_position, F138_end⟩ A130 (by decide) gb138) hn9 C.hZ (hw _ (List.mem_of_getElem? (i := 6) rfl)) (hw _ (List.mem_of_getElem? (i := 2) rfl)) (by decide) (by decide)) (k' := 3) (n' := 18) rfl rfl (by decide) (by decide) ?_
  rintro _ h139 ⟨rfl, Ki, t_b138, ft_b138, gt_b138, ⟨E_b138, F1_b138, F2_b138, F3_b138⟩, At_b138⟩
  have ne_t_SEQUENCE_t_b138 : t_SEQUENCE ≠ t_b138 := Nat.ne_of_lt (Nat.lt_of_lt_of_le E_SEQUENCE.lt ft_b138)
  have ne_t_NULL_t_b138 : t_NULL ≠ t_b138 := Nat.ne_of_lt (Nat.lt_of_lt_of_le E_NULL.lt ft_b138)
  have ne_t_OCTET_STRING_t_b138 : t_OCTET_STRING ≠ t_b138 := Nat.ne_of_lt (Nat.lt_of_lt_of_le E_OCTET_STRING.lt ft_b138)
  have ne_b130_t_b138 : b130 ≠ t_b138 := Nat.ne_of_lt (Nat.lt_of_lt_of_le A130.lt ft_b138)
  have ne_b138_t_b138 : b138 ≠ t_b138 := Nat.ne_of_lt (Nat.lt_of_lt_of_le A138.lt ft_b138)
  have X := X.keep Ki (allS gb138 all0)
  have E_SEQUENCE := E_SEQUENCE.keep Ki
  have F_SEQUENCE := F_SEQUENCE.keep Ki (ninS ne_t_SEQUENCE_b138 nin0)
  have E_NULL := E_NULL.keep Ki
  have F_NULL := F_NULL.keep Ki (ninS ne_t_NULL_b138 nin0)
  have E_OCTET_STRING := E_OCTET_STRING.keep Ki
  have F_OCTET_STRING := F_OCTET_STRING.keep Ki (ninS ne_t_OCTET_STRING_b138 nin0)
  have A130 := A130.keep Ki (ninS ne_b130_b138 nin0)
  have A138 := A138.keep Ki
  show Go w l _ n0 _ h139 3 18 229 #[.val (.int p0), .val (.int p1), .val (.int p2), .val (.int p3), .val (.int (1 : Int32)), .val (.int (1 : Int32)), .val (.int k1), .val (.int (1 : Int32)), .val (.int (3 : Int32)), .val (.int (0 : Int32)), .val (.int (3 : Int32)), .val (.int (6 : Int32)), .val (.ref b130), .val (.int (5 : Int32)), .unset, .unset, .unset] [(.ref b138)]
  refine g_astore C at_229 (pc' := 231) rfl rfl (Ls' := #[.val (.int p0), .val (.int p1), .val (.int p2), .val (.int p3), .val (.int (1 : Int32)), .val (.int (1 : Int32)), .val (.int k1), .val (.int (1 : Int32)), .val (.int (3 : Int32)), .val (.int (0 : Int32)), .val (.int (3 : Int32)), .val (.int (6 : Int32)), .val (.ref b130), .val (.int (5 : Int32)), .val (.ref b138), .unset, .unset]) rfl ?_
  refine g_aload C at_231 (pc' := 233) rfl rfl rfl ?_
  refine g_virtual (rm := R_m_hasMore) (a := b138) C (y := (⟨"com/example/sigillum/sigillum/codec/DerReader", "hasMore", "()Z"⟩ : MethodName)) (y' := (⟨"com/example/sigillum/sigillum/codec/DerReader", "hasMore", "()Z"⟩ : MethodName)) (hw _ (List.mem_of_getElem? (i := 28) rfl)) (hw _ (List.mem_of_getElem? (i := 29) rfl)) (g_nf C (hw _ (List.mem_of_getElem? (i := 31) rfl))) (hw _ (List.mem_of_getElem? (i := 31) rfl)) (hw _ (List.mem_of_getElem? (i := 30) rfl)) (by decide) E_b138 at_233 (pc' := 236) rfl (argsL := []) (rest := []) (lenOf pd_1 rfl) rfl (W := 0) (Nat.le_of_eq rfl) rfl (fun hn9 => Met.back (rm := R_m_hasMore) (m_hasMore hw b138 (0 : Int32) (6 : Int32) F2_b138 F3_b138) hn9 C.hZ (hw _ (List.mem_of_getElem? (i := 32) rfl)) (hw _ (List.mem_of_getElem? (i := 2) rfl)) (by decide) (by decide)) (k' := 3) (n' := 18) rfl rfl (by decide) (by decide) ?_
  rintro _ _ ⟨rfl, rfl⟩
  show Go w l _ n0 _ h139 3 18 236 #[.val (.int p0), .val (.int p1), .val (.int p2), .val (.int p3), .val (.int (1 : Int32)), .val (.int (1 : Int32)), .val (.int k1), .val (.int (1 : Int32)), .val (.int (3 : Int32)), .val (.int (0 : Int32)), .val (.int (3 : Int32)), .val (.int (6 : Int32)), .val (.ref b130), .val (.int (5 : Int32)), .val (.ref b138), .unset, .unset] [(.int (1 : Int32))]
  refine g_istore C at_236 (pc' := 238) rfl (Ls' := #[.val (.int p0), .val (.int p1), .val (.int p2), .val (.int p3), .val (.int (1 : Int32)), .val (.int (1 : Int32)), .val (.int k1), .val (.int (1 : Int32)), .val (.int (3 : Int32)), .val (.int (0 : Int32)), .val (.int (3 : Int32)), .val (.int (6 : Int32)), .val (.ref b130), .val (.int (5 : Int32)), .val (.ref b138), .val (.int (1 : Int32)), .unset]) rfl ?_
  refine g_aload C at_238 (pc' := 240) rfl rfl rfl ?_
  refine g_virtual (rm := R_m_seq) (a := b138) C (y := (⟨"com/example/sigillum/sigillum/codec/DerReader", "sequence", "()Lcom/example/sigillum/sigillum/codec/DerReader;"⟩ : MethodName)) (y' := (⟨"com/example/sigillum/sigillum/codec/DerReader", "sequence", "()Lcom/example/sigillum/sigillum/codec/DerReader;"⟩ : MethodName)) (hw _ (List.mem_of_getElem? (i := 33) rfl)) (hw _ (List.mem_of_getElem? (i := 34) rfl)) (g_nf C (hw _ (List.mem_of_getElem? (i := 36) rfl))) (hw _ (List.mem_of_getElem? (i := 36) rfl)) (hw _ (List.mem_of_getElem? (i := 35) rfl)) (by decide) E_b138 at_240 (pc' := 243) rfl (argsL := []) (rest := []) (lenOf pd_11 rfl) rfl (W := 0) (Nat.le_of_eq rfl) rfl (fun hn9 => Met.back (rm := R_m_seq) (m_seq hw b138 t_b138 t_SEQUENCE (0 : Int32) (6 : Int32) (6 : Int32) (48 : Int32) (3 : Int32) (3 : Int32) (48 : Int32) (2 : Int32) (upd (upd (upd (upd (upd (upd (fun _ => (.int 0)) 0 (.int (48 : Int32))) 1 (.int (3 : Int32))) 2 (.int (4 : Int32))) 3 (.int (1 : Int32))) 4 (.int (nar .byte (p1.toInt8.toInt32)))) 5 (.int (nar .byte (p3.toInt8.toInt32)))) (5 : Int32) ⟨E_b138, F1_b138, F2_b138, F3_b138⟩ At_b138 E_SEQUENCE F_SEQUENCE gb138 (Ne.symm ne_b138_t_b138) (by decide) (by decide) (by decide) rfl (by decide) (by decide) (by decide) (by decide) rfl (by decide) (by decide) (by decide) (by decide) (by decide) (S_SEQUENCE.ext X.2)) hn9 C.hZ (hw _ (List.mem_of_getElem? (i := 37) rfl)) (hw _ (List.mem_of_getElem? (i := 2) rfl)) (by decide) (by decide)) (k' := 4) (n' := 21) rfl rfl (by decide) (by decide) ?_
  rintro _ h140 ⟨sq, rfl, fsq, gsq, Ks, ⟨E_b138, F1_b138, F2_b138, F3_b138⟩, ⟨E_sq, F1_sq, F2_sq, F3_sq⟩⟩
  have ne_t_SEQUENCE_sq : t_SEQUENCE ≠ sq := Nat.ne_of_lt (Nat.lt_of_lt_of_le E_SEQUENCE.lt fsq)
  have ne_t_NULL_sq : t_NULL ≠ sq := Nat.ne_of_lt (Nat.lt_of_lt_of_le E_NULL.lt fsq)
  have ne_t_OCTET_STRING_sq : t_OCTET_STRING ≠ sq := Nat.ne_of_lt (Nat.lt_of_lt_of_le E_OCTET_STRING.lt fsq)
  have ne_b130_sq : b130 ≠ sq := Nat.ne_of_lt (Nat.lt_of_lt_of_le A130.lt fsq)
  have ne_t_b138_sq : t_b138 ≠ sq := Nat.ne_of_lt (Nat.lt_of_lt_of_le At_b138.lt fsq)
  have X := X.keep Ks (allS gb138 all0)
  have E_SEQUENCE := E_SEQUENCE.keep Ks
  have F_SEQUENCE := F_SEQUENCE.keep Ks (ninS ne_t_SEQUENCE_b138 nin0)
  have E_NULL := E_NULL.keep Ks
  have F_NULL := F_NULL.keep Ks (ninS ne_t_NULL_b138 nin0)
  have E_OCTET_STRING := E_OCTET_STRING.keep Ks
  have F_OCTET_STRING := F_OCTET_STRING.keep Ks (ninS ne_t_OCTET_STRING_b138 nin0)
  have A130 := A130.keep Ks (ninS ne_b130_b138 nin0)
  have At_b138 := At_b138.keep Ks (ninS (Ne.symm ne_b138_t_b138) nin0)
  show Go w l _ n0 _ h140 4 21 243 #[.val (.int p0), .val (.int p1), .val (.int p2), .val (.int p3), .val (.int (1 : Int32)), .val (.int (1 : Int32)), .val (.int k1), .val (.int (1 : Int32)), .val (.int (3 : Int32)), .val (.int (0 : Int32)), .val (.int (3 : Int32)), .val (.int (6 : Int32)), .val (.ref b130), .val (.int (5 : Int32)), .val (.ref b138), .val (.int (1 : Int32)), .unset] [(.ref sq)]
  refine g_astore C at_243 (pc' := 245) rfl rfl (Ls' := #[.val (.int p0), .val (.int p1), .val (.int p2), .val (.int p3), .val (.int (1 : Int32)), .val (.int (1 : Int32)), .val (.int k1), .val (.int (1 : Int32)), .val (.int (3 : Int32)), .val (.int (0 : Int32)), .val (.int (3 : Int32)), .val (.int (6 : Int32)), .val (.ref b130), .val (.int (5 : Int32)), .val (.ref b138), .val (.int (1 : Int32)), .val (.ref sq)]) rfl ?_
  refine g_iload C at_245 (pc' := 247) rfl rfl ?_
  refine g_if_eq C at_247 (by decide) (pc' := 264) (by decide) (pcN := 250) rfl (fun q => absurd q (by decide)) (fun _ => ?_)
  refine g_aload C at_250 (pc' := 252) rfl rfl rfl ?_
  refine g_virtual (rm := R_m_hasMore) (a := b138) C (y := (⟨"com/example/sigillum/sigillum/codec/DerReader", "hasMore", "()Z"⟩ : MethodName)) (y' := (⟨"com/example/sigillum/sigillum/codec/DerReader", "hasMore", "()Z"⟩ : MethodName)) (hw _ (List.mem_of_getElem? (i := 28) rfl)) (hw _ (List.mem_of_getElem? (i := 29) rfl)) (g_nf C (hw _ (List.mem_of_getElem? (i := 31) rfl))) (hw _ (List.mem_of_getElem? (i := 31) rfl)) (hw _ (List.mem_of_getElem? (i := 30) rfl)) (by decide) E_b138 at_252 (pc' := 255) rfl (argsL := []) (rest := []) (lenOf pd_1 rfl) rfl (W := 0) (Nat.le_of_eq rfl) rfl (fun hn9 => Met.back (rm := R_m_hasMore) (m_hasMore hw b138 (5 : Int32) (6 : Int32) F2_b138 F3_b138) hn9 C.hZ (hw _ (List.mem_of_getElem? (i := 32) rfl)) (hw _ (List.mem_of_getElem? (i := 2) rfl)) (by decide) (by decide)) (k' := 4) (n' := 21) rfl rfl (by decide) (by decide) ?_
  rintro _ _ ⟨rfl, rfl⟩
  show Go w l _ n0 _ h140 4 21 255 #[.val (.int p0), .val (.int p1), .val (.int p2), .val (.int p3), .val (.int (1 : Int32)), .val (.int (1 : Int32)), .val (.int k1), .val (.int (1 : Int32)), .val (.int (3 : Int32)), .val (.int (0 : Int32)), .val (.int (3 : Int32)), .val (.int (6 : Int32)), .val (.ref b130), .val (.int (5 : Int32)), .val (.ref b138), .val (.int (1 : Int32)), .val (.ref sq)] [(.int (1 : Int32))]
  refine g_iload C at_255 (pc' := 257) rfl rfl ?_
  refine g_icmp_ne C at_257 (by decide) (pc' := 264) (by decide) (pcN := 260) rfl (fun q => absurd rfl q) (fun _ => ?_)
  refine g_iconst C (z := (1 : Int32)) at_260 (pc' := 261) rfl rfl ?_
  refine g_goto C at_261 (by decide) (pc' := 265) (by decide) ?_
  refine g_istore C at_265 (pc' := 267) rfl (Ls' := #[.val (.int p0), .val (.int p1), .val (.int p2), .val (.int p3), .val (.int (1 : Int32)), .val (.int (1 : Int32)), .val (.int k1), .val (.int (1 : Int32)), .val (.int (3 : Int32)), .val (.int (0 : Int32)), .val (.int (3 : Int32)), .val (.int (6 : Int32)), .val (.ref b130), .val (.int (5 : Int32)), .val (.ref b138), .val (.int (1 : Int32)), .val (.ref sq)]) rfl ?_
  refine g_iload C at_267 (pc' := 269) rfl rfl ?_
  refine g_if_eq C at_269 (by decide) (pc' := 294) (by decide) (pcN := 272) rfl (fun q => absurd q (by decide)) (fun _ => ?_)
  refine g_aload C at_272 (pc' := 274) rfl rfl rfl ?_
  refine g_virtual (rm := R_m_hasMore) (a := sq) C (y := (⟨"com/example/sigillum/sigillum/codec/DerReader", "hasMore", "()Z"⟩ : MethodName)) (y' := (⟨"com/example/sigillum/sigillum/codec/DerReader", "hasMore", "()Z"⟩ : MethodName)) (hw _ (List.mem_of_getElem? (i := 28) rfl)) (hw _ (List.mem_of_getElem? (i := 29) rfl)) (g_nf C (hw _ (List.mem_of_getElem? (i := 31) rfl))) (hw _ (List.mem_of_getElem? (i := 31) rfl)) (hw _ (List.mem_of_getElem? (i := 30) rfl)) (by decide) E_sq at_274 (pc' := 277) rfl (argsL := []) (rest := []) (lenOf pd_1 rfl) rfl (W := 0) (Nat.le_of_eq rfl) rfl (fun hn9 => Met.back (rm := R_m_hasMore) (m_hasMore hw sq (2 : Int32) (5 : Int32) F2_sq F3_sq) hn9 C.hZ (hw _ (List.mem_of_getElem? (i := 32) rfl)) (hw _ (List.mem_of_getElem? (i := 2) rfl)) (by decide) (by decide)) (k' := 4) (n' := 21) rfl rfl (by decide) (by decide) ?_
  rintro _ _ ⟨rfl, rfl⟩
  show Go w l _ n0 _ h140 4 21 277 #[.val (.int p0), .val (.int p1), .val (.int p2), .val (.int p3), .val (.int (1 : Int32)), .val (.int (1 : Int32)), .val (.int k1), .val (.int (1 : Int32)), .val (.int (3 : Int32)), .val (.int (0 : Int32)), .val (.int (3 : Int32)), .val (.int (6 : Int32)), .val (.ref b130), .val (.int (5 : Int32)), .val (.ref b138), .val (.int (1 : Int32)), .val (.ref sq)] [(.int (1 : Int32))]
  refine g_iload C at_277 (pc' := 279) rfl rfl ?_
  refine g_if_le C at_279 (by decide) (pc' := 286) (by decide) (pcN := 282) rfl (fun q => absurd q (by decide)) (fun _ => ?_)
  refine g_iconst C (z := (1 : Int32)) at_282 (pc' := 283) rfl rfl ?_
  refine g_goto C at_283 (by decide) (pc' := 287) (by decide) ?_
  refine g_icmp_ne C at_287 (by decide) (pc' := 294) (by decide) (pcN := 290) rfl (fun q => absurd rfl q) (fun _ => ?_)
  refine g_iconst C (z := (1 : Int32)) at_290 (pc' := 291) rfl rfl ?_
  refine g_goto C at_291 (by decide) (pc' := 295) (by decide) ?_
  refine g_istore C at_295 (pc' := 297) rfl (Ls' := #[.val (.int p0), .val (.int p1), .val (.int p2), .val (.int p3), .val (.int (1 : Int32)), .val (.int (1 : Int32)), .val (.int k1), .val (.int (1 : Int32)), .val (.int (3 : Int32)), .val (.int (0 : Int32)), .val (.int (3 : Int32)), .val (.int (6 : Int32)), .val (.ref b130), .val (.int (5 : Int32)), .val (.ref b138), .val (.int (1 : Int32)), .val (.ref sq)]) rfl ?_
  refine g_iload C at_297 (pc' := 299) rfl rfl ?_
  refine g_if_le C at_299 (by decide) (pc' := 340) (by decide) (pcN := 302) rfl (fun q => absurd q (by decide)) (fun _ => ?_)
  refine g_aload C at_302 (pc' := 304) rfl rfl rfl ?_
  refine g_iload C at_304 (pc' := 306) rfl rfl ?_
  refine g_static (rm := R_m_read1) C (y := (⟨"com/example/sigillum/sigillum/codec/DerReaderHasMorePinLaw", "read", "(Lcom/example/sigillum/sigillum/codec/DerReader;Z)V"⟩ : MethodName)) (hw _ (List.mem_of_getElem? (i := 58) rfl)) (hw _ (List.mem_of_getElem? (i := 59) rfl)) (hw _ (List.mem_of_getElem? (i := 56) rfl)) (hw _ (List.mem_of_getElem? (i := 60) rfl)) (by decide) at_306 (pc' := 309) rfl (argsL := [(.ref sq), (.int (1 : Int32))]) (rest := []) (lenOf pd_13 rfl) rfl (W := 0) (Nat.le_of_eq rfl) rfl (fun hn9 => Met.back (rm := R_m_read1) (m_read1 hw sq t_b138 t_OCTET_STRING (2 : Int32) (5 : Int32) (6 : Int32) (4 : Int32) (1 : Int32) (1 : Int32) (4 : Int32) (4 : Int32) (upd (upd (upd (upd (upd (upd (fun _ => (.int 0)) 0 (.int (48 : Int32))) 1 (.int (3 : Int32))) 2 (.int (4 : Int32))) 3 (.int (1 : Int32))) 4 (.int (nar .byte (p1.toInt8.toInt32)))) 5 (.int (nar .byte (p3.toInt8.toInt32)))) ⟨E_sq, F1_sq, F2_sq, F3_sq⟩ At_b138 E_OCTET_STRING F_OCTET_STRING gsq ne_t_b138_sq (by decide) (by decide) (by decide) rfl (by decide) (by decide) (by decide) (by decide) rfl (by decide) (by decide) (by decide) (by decide) (5 : Int32) (1 : Int32) (by decide) (by decide) (by decide) (by decide) (by decide) (by decide) (by decide) (by decide) (by decide) (by decide) (by decide) (S_OCTET_STRING.ext X.2)) hn9 C.hZ (hw _ (List.mem_of_getElem? (i := 60) rfl)) (hw _ (List.mem_of_getElem? (i := 56) rfl)) (by decide) (by decide)) (k' := 5) (n' := 24) rfl rfl (by decide) (by decide) ?_
  rintro _ h141 ⟨rfl, Kr, ⟨E_sq, F1_sq, F2_sq, F3_sq⟩⟩
  have X := X.keep Kr (allS gsq all0)
  have E_SEQUENCE := E_SEQUENCE.keep Kr
  have F_SEQUENCE := F_SEQUENCE.keep Kr (ninS ne_t_SEQUENCE_sq nin0)
  have E_NULL := E_NULL.keep Kr
  have F_NULL := F_NULL.keep Kr (ninS ne_t_NULL_sq nin0)
  have E_OCTET_STRING := E_OCTET_STRING.keep Kr
  have F_OCTET_STRING := F_OCTET_STRING.keep Kr (ninS ne_t_OCTET_STRING_sq nin0)
  have A130 := A130.keep Kr (ninS ne_b130_sq nin0)
  have At_b138 := At_b138.keep Kr (ninS ne_t_b138_sq nin0)
  have E_b138 := E_b138.keep Kr
  show Go w l _ n0 _ h141 5 24 309 #[.val (.int p0), .val (.int p1), .val (.int p2), .val (.int p3), .val (.int (1 : Int32)), .val (.int (1 : Int32)), .val (.int k1), .val (.int (1 : Int32)), .val (.int (3 : Int32)), .val (.int (0 : Int32)), .val (.int (3 : Int32)), .val (.int (6 : Int32)), .val (.ref b130), .val (.int (5 : Int32)), .val (.ref b138), .val (.int (1 : Int32)), .val (.ref sq)] []
  refine g_iload C at_309 (pc' := 311) rfl rfl ?_
  refine g_if_eq C at_311 (by decide) (pc' := 337) (by decide) (pcN := 314) rfl (fun q => absurd q (by decide)) (fun _ => ?_)
  refine g_aload C at_314 (pc' := 316) rfl rfl rfl ?_
  refine g_virtual (rm := R_m_hasMore) (a := sq) C (y := (⟨"com/example/sigillum/sigillum/codec/DerReader", "hasMore", "()Z"⟩ : MethodName)) (y' := (⟨"com/example/sigillum/sigillum/codec/DerReader", "hasMore", "()Z"⟩ : MethodName)) (hw _ (List.mem_of_getElem? (i := 28) rfl)) (hw _ (List.mem_of_getElem? (i := 29) rfl)) (g_nf C (hw _ (List.mem_of_getElem? (i := 31) rfl))) (hw _ (List.mem_of_getElem? (i := 31) rfl)) (hw _ (List.mem_of_getElem? (i := 30) rfl)) (by decide) E_sq at_316 (pc' := 319) rfl (argsL := []) (rest := []) (lenOf pd_1 rfl) rfl (W := 0) (Nat.le_of_eq rfl) rfl (fun hn9 => Met.back (rm := R_m_hasMore) (m_hasMore hw sq (5 : Int32) (5 : Int32) F2_sq F3_sq) hn9 C.hZ (hw _ (List.mem_of_getElem? (i := 32) rfl)) (hw _ (List.mem_of_getElem? (i := 2) rfl)) (by decide) (by decide)) (k' := 5) (n' := 24) rfl rfl (by decide) (by decide) ?_
  rintro _ _ ⟨rfl, rfl⟩
  show Go w l _ n0 _ h141 5 24 319 #[.val (.int p0), .val (.int p1), .val (.int p2), .val (.int p3), .val (.int (1 : Int32)), .val (.int (1 : Int32)), .val (.int k1), .val (.int (1 : Int32)), .val (.int (3 : Int32)), .val (.int (0 : Int32)), .val (.int (3 : Int32)), .val (.int (6 : Int32)), .val (.ref b130), .val (.int (5 : Int32)), .val (.ref b138), .val (.int (1 : Int32)), .val (.ref sq)] [(.int (0 : Int32))]
  refine g_iload C at_319 (pc' := 321) rfl rfl ?_
  refine g_iconst C (z := (1 : Int32)) at_321 (pc' := 322) rfl rfl ?_
  refine g_icmp_le C at_322 (by decide) (pc' := 329) (by decide) (pcN := 325) rfl (fun _ => ?_) (fun q => absurd q (by decide))
  refine g_iconst C (z := (0 : Int32)) at_329 (pc' := 330) rfl rfl ?_
  refine g_icmp_ne C at_330 (by decide) (pc' := 337) (by decide) (pcN := 333) rfl (fun q => absurd rfl q) (fun _ => ?_)
  refine g_iconst C (z := (1 : Int32)) at_333 (pc' := 334) rfl rfl ?_
  refine g_goto C at_334 (by decide) (pc' := 338) (by decide) ?_
  refine g_istore C at_338 (pc' := 340) rfl (Ls' := #[.val (.int p0), .val (.int p1), .val (.int p2), .val (.int p3), .val (.int (1 : Int32)), .val (.int (1 : Int32)), .val (.int k1), .val (.int (1 : Int32)), .val (.int (3 : Int32)), .val (.int (0 : Int32)), .val (.int (3 : Int32)), .val (.int (6 : Int32)), .val (.ref b130), .val (.int (5 : Int32)), .val (.ref b138), .val (.int (1 : Int32)), .val (.ref sq)]) rfl ?_
  refine g_iload C at_340 (pc' := 342) rfl rfl ?_
  refine g_iconst C (z := (1 : Int32)) at_342 (pc' := 343) rfl rfl ?_
  refine g_icmp_le C at_343 (by decide) (pc' := 373) (by decide) (pcN := 346) rfl (fun _ => ?_) (fun q => absurd q (by decide))
  refine g_iload C at_373 (pc' := 375) rfl rfl ?_
  exact g_retN C (t := .boolean) rfl (by simp) at_375 rfl (by decide) (by decide)
set_option maxRecDepth 65536 in
set_option maxHeartbeats 40000000 in
theorem seg82_2000 {l : Launch} {Z : State} {a0 : Array Value} (hw : ∀ d ∈ tables_1, d.before a0 Z = true) {w : Wk} {n0 : Nat} {h0 : Heap} {Y : State → Outcome → Prop} (p0 p1 p2 p3 : Int32) (t_SEQUENCE t_NULL t_OCTET_STRING : Addr) (C : Cx w Z "com/example/sigillum/sigillum/codec/DerReaderHasMorePinLaw" code 17 (some .boolean) "law" room_1 n0 (fun v _ => v = some (.int 1)) Y) (X : Old Z n0 h0) (S_SEQUENCE : Sta Z Z.heap "com/example/sigillum/sigillum/codec/DerTag" "SEQUENCE" "Lcom/example/sigillum/sigillum/codec/DerTag;" (.ref t_SEQUENCE)) (E_SEQUENCE : Exa Z h0 t_SEQUENCE "com/example/sigillum/sigillum/codec/DerTag") (F_SEQUENCE : Fld Z h0 t_SEQUENCE "com/example/sigillum/sigillum/codec/DerTag" "identifier" "I" (.int 48)) (S_NULL : Sta Z Z.heap "com/example/sigillum/sigillum/codec/DerTag" "NULL" "Lcom/example/sigillum/sigillum/codec/DerTag;" (.ref t_NULL)) (E_NULL : Exa Z h0 t_NULL "com/example/sigillum/sigillum/codec/DerTag") (F_NULL : Fld Z h0 t_NULL "com/example/sigillum/sigillum/codec/DerTag" "identifier" "I" (.int 5)) (S_OCTET_STRING : Sta Z Z.heap "com/example/sigillum/sigillum/codec/DerTag" "OCTET_STRING" "Lcom/example/sigillum/sigillum/codec/DerTag;" (.ref t_OCTET_STRING)) (E_OCTET_STRING : Exa Z h0 t_OCTET_STRING "com/example/sigillum/sigillum/codec/DerTag") (F_OCTET_STRING : Fld Z h0 t_OCTET_STRING "com/example/sigillum/sigillum/codec/DerTag" "identifier" "I" (.int 4)) :
    Go w l room_1 n0 Y h0 0 0 82 #[.val (.int p0), .val (.int p1), .val (.int p2), .val (.int p3), .val (.int (2 : Int32)), .val (.int (0 : Int32)), .val (.int (0 : Int32)), .val (.int (0 : Int32)), .unset, .unset, .unset, .unset, .unset, .unset, .unset, .unset, .unset] [] := by
  refine g_iload C at_82 (pc' := 84) rfl rfl ?_
  refine g_if_le C at_84 (by decide) (pc' := 100) (by decide) (pcN := 87) rfl (fun q => absurd q (by decide)) (fun _ => ?_)
  refine g_iload C at_87 (pc' := 89) rfl rfl ?_
  refine g_if_eq C at_89 (by decide) (pc' := 96) (by decide) (pcN := 92) rfl (fun _ => ?_) (fun q => absurd rfl q)
  refine g_iconst C (z := (2 : Int32)) at_96 (pc' := 97) rfl rfl ?_
  refine g_goto C at_97 (by decide) (pc' := 101) (by decide) ?_
  refine g_istore C at_101 (pc' := 103) rfl (Ls' := #[.val (.int p0), .val (.int p1), .val (.int p2), .val (.int p3), .val (.int (2 : Int32)), .val (.int (0 : Int32)), .val (.int (0 : Int32)), .val (.int (0 : Int32)), .val (.int (2 : Int32)), .unset, .unset, .unset, .unset, .unset, .unset, .unset, .unset]) rfl ?_
  refine g_iload C at_103 (pc' := 105) rfl rfl ?_
  refine g_iconst C (z := (1 : Int32)) at_105 (pc' := 106) rfl rfl ?_
  refine g_icmp_le C at_106 (by decide) (pc' := 122) (by decide) (pcN := 109) rfl (fun q => absurd q (by decide)) (fun _ => ?_)
  refine g_iload C at_109 (pc' := 111) rfl rfl ?_
  refine g_if_eq C at_111 (by decide) (pc' := 118) (by decide) (pcN := 114) rfl (fun _ => ?_) (fun q => absurd rfl q)
  refine g_iconst C (z := (2 : Int32)) at_118 (pc' := 119) rfl rfl ?_
  refine g_goto C at_119 (by decide) (pc' := 123) (by decide) ?_
  refine g_istore C at_123 (pc' := 125) rfl (Ls' := #[.val (.int p0), .val (.int p1), .val (.int p2), .val (.int p3), .val (.int (2 : Int32)), .val (.int (0 : Int32)), .val (.int (0 : Int32)), .val (.int (0 : Int32)), .val (.int (2 : Int32)), .val (.int (2 : Int32)), .unset, .unset, .unset, .unset, .unset, .unset, .unset]) rfl ?_
  refine g_iload C at_125 (pc' := 127) rfl rfl ?_
  refine g_iload C at_127 (pc' := 129) rfl rfl ?_
  refine g_iadd C at_129 (pc' := 130) rfl ?_
  show Go w l _ n0 _ h0 0 0 130 #[.val (.int p0), .val (.int p1), .val (.int p2), .val (.int p3), .val (.int (2 : Int32)), .val (.int (0 : Int32)), .val (.int (0 : Int32)), .val (.int (0 : Int32)), .val (.int (2 : Int32)), .val (.int (2 : Int32)), .unset, .unset, .unset, .unset, .unset, .unset, .unset] [(.int (4 : Int32))]
  refine g_istore C at_130 (pc' := 132) rfl (Ls' := #[.val (.int p0), .val (.int p1), .val (.int p2), .val (.int p3), .val (.int (2 : Int32)), .val (.int (0 : Int32)), .val (.int (0 : Int32)), .val (.int (0 : Int32)), .val (.int (2 : Int32)), .val (.int (2 : Int32)), .val (.int (4 : Int32)), .unset, .unset, .unset, .unset, .unset, .unset]) rfl ?_
  refine g_iconst C (z := (2 : Int32)) at_132 (pc' := 133) rfl rfl ?_
  refine g_iload C at_133 (pc' := 135) rfl rfl ?_
  refine g_iadd C at_135 (pc' := 136) rfl ?_
  show Go w l _ n0 _ h0 0 0 136 #[.val (.int p0), .val (.int p1), .val (.int p2), .val (.int p3), .val (.int (2 : Int32)), .val (.int (0 : Int32)), .val (.int (0 : Int32)), .val (.int (0 : Int32)), .val (.int (2 : Int32)), .val (.int (2 : Int32)), .val (.int (4 : Int32)), .unset, .unset, .unset, .unset, .unset, .unset] [(.int (6 : Int32))]
  refine g_iload C at_136 (pc' := 138) rfl rfl ?_
  refine g_if_eq C at_138 (by decide) (pc' := 145) (by decide) (pcN := 141) rfl (fun _ => ?_) (fun q => absurd rfl q)
  refine g_iconst C (z := (0 : Int32)) at_145 (pc' := 146) rfl rfl ?_
  refine g_iadd C at_146 (pc' := 147) rfl ?_
  show Go w l _ n0 _ h0 0 0 147 #[.val (.int p0), .val (.int p1), .val (.int p2), .val (.int p3), .val (.int (2 : Int32)), .val (.int (0 : Int32)), .val (.int (0 : Int32)), .val (.int (0 : Int32)), .val (.int (2 : Int32)), .val (.int (2 : Int32)), .val (.int (4 : Int32)), .unset, .unset, .unset, .unset, .unset, .unset] [(.int (6 : Int32))]
  refine g_istore C at_147 (pc' := 149) rfl (Ls' := #[.val (.int p0), .val (.int p1), .val (.int p2), .val (.int p3), .val (.int (2 : Int32)), .val (.int (0 : Int32)), .val (.int (0 : Int32)), .val (.int (0 : Int32)), .val (.int (2 : Int32)), .val (.int (2 : Int32)), .val (.int (4 : Int32)), .val (.int (6 : Int32)), .unset, .unset, .unset, .unset, .unset]) rfl ?_
  refine g_iload C at_149 (pc' := 151) rfl rfl ?_
  refine g_newarr C (ad := "[B") (cap := 6) (hw _ (List.mem_of_getElem? (i := 3) rfl)) at_151 (pc' := 153) rfl rfl (by decide) (by decide) (by decide) (k' := 1) (n' := 6) rfl rfl (by decide) (by decide) rfl ?_
  intro h142 b142 E142 fb142 gb142 A142
  have ne_t_SEQUENCE_b142 : t_SEQUENCE ≠ b142 := Nat.ne_of_lt (Nat.lt_of_lt_of_le E_SEQUENCE.lt fb142)
  have ne_t_NULL_b142 : t_NULL ≠ b142 := Nat.ne_of_lt (Nat.lt_of_lt_of_le E_NULL.lt fb142)
  have ne_t_OCTET_STRING_b142 : t_OCTET_STRING ≠ b142 := Nat.ne_of_lt (Nat.lt_of_lt_of_le E_OCTET_STRING.lt fb142)
  have X := X.ext E142
  have E_SEQUENCE := E_SEQUENCE.ext E142
  have F_SEQUENCE := F_SEQUENCE.ext E142
  have E_NULL := E_NULL.ext E142
  have F_NULL := F_NULL.ext E142
  have E_OCTET_STRING := E_OCTET_STRING.ext E142
  have F_OCTET_STRING := F_OCTET_STRING.ext E142
  have A142 : Arf Z h142 b142 "[B" .byte (6 : Int32) (fun _ => (.int 0)) := A142
  refine g_astore C at_153 (pc' := 155) rfl rfl (Ls' := #[.val (.int p0), .val (.int p1), .val (.int p2), .val (.int p3), .val (.int (2 : Int32)), .val (.int (0 : Int32)), .val (.int (0 : Int32)), .val (.int (0 : Int32)), .val (.int (2 : Int32)), .val (.int (2 : Int32)), .val (.int (4 : Int32)), .val (.int (6 : Int32)), .val (.ref b142), .unset, .unset, .unset, .unset]) rfl ?_
  refine g_aload C at_155 (pc' := 157) rfl rfl rfl ?_
  refine g_iconst C (z := (0 : Int32)) at_157 (pc' := 158) rfl rfl ?_
  refine g_bipush C (z := (48 : Int32)) at_158 (pc' := 160) rfl rfl ?_
  refine g_bastore C A142 (by decide) (by decide) at_160 (pc' := 161) rfl gb142 (fun h143 W144 A142' => ?_)
  have X := X.wr W144 gb142
  have E_SEQUENCE := E_SEQUENCE.wr W144
  have F_SEQUENCE := F_SEQUENCE.other W144 (Or.inl ne_t_SEQUENCE_b142)
  have E_NULL := E_NULL.wr W144
  have F_NULL := F_NULL.other W144 (Or.inl ne_t_NULL_b142)
  have E_OCTET_STRING := E_OCTET_STRING.wr W144
  have F_OCTET_STRING := F_OCTET_STRING.other W144 (Or.inl ne_t_OCTET_STRING_b142)
  have A142 : Arf Z h143 b142 "[B" .byte (6 : Int32) (upd (fun _ => (.int 0)) 0 (.int (48 : Int32))) := A142'
  refine g_aload C at_161 (pc' := 163) rfl rfl rfl ?_
  refine g_iconst C (z := (1 : Int32)) at_163 (pc' := 164) rfl rfl ?_
  refine g_iload C at_164 (pc' := 166) rfl rfl ?_
  refine g_i2b C at_166 (pc' := 167) rfl ?_
  show Go w l _ n0 _ h143 1 6 167 #[.val (.int p0), .val (.int p1), .val (.int p2), .val (.int p3), .val (.int (2 : Int32)), .val (.int (0 : Int32)), .val (.int (0 : Int32)), .val (.int (0 : Int32)), .val (.int (2 : Int32)), .val (.int (2 : Int32)), .val (.int (4 : Int32)), .val (.int (6 : Int32)), .val (.ref b142), .unset, .unset, .unset, .unset] [(.int (4 : Int32)), (.int (1 : Int32)), (.ref b142)]
  refine g_bastore C A142 (by decide) (by decide) at_167 (pc' := 168) rfl gb142 (fun h145 W146 A142' => ?_)
  have X := X.wr W146 gb142
  have E_SEQUENCE := E_SEQUENCE.wr W146
  have F_SEQUENCE := F_SEQUENCE.other W146 (Or.inl ne_t_SEQUENCE_b142)
  have E_NULL := E_NULL.wr W146
  have F_NULL := F_NULL.other W146 (Or.inl ne_t_NULL_b142)
  have E_OCTET_STRING := E_OCTET_STRING.wr W146
  have F_OCTET_STRING := F_OCTET_STRING.other W146 (Or.inl ne_t_OCTET_STRING_b142)
  have A142 : Arf Z h145 b142 "[B" .byte (6 : Int32) (upd (upd (fun _ => (.int 0)) 0 (.int (48 : Int32))) 1 (.int (4 : Int32))) := A142'
  refine g_iconst C (z := (2 : Int32)) at_168 (pc' := 169) rfl rfl ?_
  refine g_istore C at_169 (pc' := 171) rfl (Ls' := #[.val (.int p0), .val (.int p1), .val (.int p2), .val (.int p3), .val (.int (2 : Int32)), .val (.int (0 : Int32)), .val (.int (0 : Int32)), .val (.int (0 : Int32)), .val (.int (2 : Int32)), .val (.int (2 : Int32)), .val (.int (4 : Int32)), .val (.int (6 : Int32)), .val (.ref b142), .val (.int (2 : Int32)), .unset, .unset, .unset]) rfl ?_
  refine g_iload C at_171 (pc' := 173) rfl rfl ?_
  refine g_if_le C at_173 (by decide) (pc' := 189) (by decide) (pcN := 176) rfl (fun q => absurd q (by decide)) (fun _ => ?_)
  refine g_aload C at_176 (pc' := 178) rfl rfl rfl ?_
  refine g_iload C at_178 (pc' := 180) rfl rfl ?_
  refine g_iload C at_180 (pc' := 182) rfl rfl ?_
  refine g_iloadN C at_182 (pc' := 183) rfl rfl ?_
  refine g_i2b C at_183 (pc' := 184) rfl ?_
  refine g_static (rm := R_m_put0) C (y := (⟨"com/example/sigillum/sigillum/codec/DerReaderHasMorePinLaw", "put", "([BIZB)I"⟩ : MethodName)) (hw _ (List.mem_of_getElem? (i := 54) rfl)) (hw _ (List.mem_of_getElem? (i := 55) rfl)) (hw _ (List.mem_of_getElem? (i := 56) rfl)) (hw _ (List.mem_of_getElem? (i := 57) rfl)) (by decide) at_184 (pc' := 187) rfl (argsL := [(.ref b142), (.int (2 : Int32)), (.int (0 : Int32)), (.int (p1.toInt8.toInt32))]) (rest := []) (lenOf pd_12 rfl) rfl (W := 0) (Nat.le_of_eq rfl) rfl (fun hn9 => Met.back (rm := R_m_put0) (m_put0 hw b142 (2 : Int32) (p1.toInt8.toInt32) (6 : Int32) (upd (upd (fun _ => (.int 0)) 0 (.int (48 : Int32))) 1 (.int (4 : Int32))) A142 gb142 (by decide) (by decide) (by decide) (by decide)) hn9 C.hZ (hw _ (List.mem_of_getElem? (i := 57) rfl)) (hw _ (List.mem_of_getElem? (i := 56) rfl)) (by decide) (by decide)) (k' := 1) (n' := 6) rfl rfl (by decide) (by decide) ?_
  rintro _ h147 ⟨rfl, Kp, Ap⟩
  have X := X.keep Kp (allS gb142 all0)
  have E_SEQUENCE := E_SEQUENCE.keep Kp
  have F_SEQUENCE := F_SEQUENCE.keep Kp (ninS ne_t_SEQUENCE_b142 nin0)
  have E_NULL := E_NULL.keep Kp
  have F_NULL := F_NULL.keep Kp (ninS ne_t_NULL_b142 nin0)
  have E_OCTET_STRING := E_OCTET_STRING.keep Kp
  have F_OCTET_STRING := F_OCTET_STRING.keep Kp (ninS ne_t_OCTET_STRING_b142 nin0)
  have A142 : Arf Z h147 b142 "[B" .byte (6 : Int32) (upd (upd (upd (upd (fun _ => (.int 0)) 0 (.int (48 : Int32))) 1 (.int (4 : Int32))) 2 (.int (5 : Int32))) 3 (.int (0 : Int32))) := Ap
  show Go w l _ n0 _ h147 1 6 187 #[.val (.int p0), .val (.int p1), .val (.int p2), .val (.int p3), .val (.int (2 : Int32)), .val (.int (0 : Int32)), .val (.int (0 : Int32)), .val (.int (0 : Int32)), .val (.int (2 : Int32)), .val (.int (2 : Int32)), .val (.int (4 : Int32)), .val (.int (6 : Int32)), .val (.ref b142), .val (.int (2 : Int32)), .unset, .unset, .unset] [(.int (4 : Int32))]
  refine g_istore C at_187 (pc' := 189) rfl (Ls' := #[.val (.int p0), .val (.int p1), .val (.int p2), .val (.int p3), .val (.int (2 : Int32)), .val (.int (0 : Int32)), .val (.int (0 : Int32)), .val (.int (0 : Int32)), .val (.int (2 : Int32)), .val (.int (2 : Int32)), .val (.int (4 : Int32)), .val (.int (6 : Int32)), .val (.ref b142), .val (.int (4 : Int32)), .unset, .unset, .unset]) rfl ?_
  refine g_iload C at_189 (pc' := 191) rfl rfl ?_
  refine g_iconst C (z := (1 : Int32)) at_191 (pc' := 192) rfl rfl ?_
  refine g_icmp_le C at_192 (by decide) (pc' := 208) (by decide) (pcN := 195) rfl (fun q => absurd q (by decide)) (fun _ => ?_)
  refine g_aload C at_195 (pc' := 197) rfl rfl rfl ?_
  refine g_iload C at_197 (pc' := 199) rfl rfl ?_
  refine g_iload C at_199 (pc' := 201) rfl rfl ?_
  refine g_iloadN C at_201 (pc' := 202) rfl rfl ?_
  refine g_i2b C at_202 (pc' := 203) rfl ?_
  refine g_static (rm := R_m_put0) C (y := (⟨"com/example/sigillum/sigillum/codec/DerReaderHasMorePinLaw", "put", "([BIZB)I"⟩ : MethodName)) (hw _ (List.mem_of_getElem? (i := 54) rfl)) (hw _ (List.mem_of_getElem? (i := 55) rfl)) (hw _ (List.mem_of_getElem? (i := 56) rfl)) (hw _ (List.mem_of_getElem? (i := 57) rfl)) (by decide) at_203 (pc' := 206) rfl (argsL := [(.ref b142), (.int (4 : Int32)), (.int (0 : Int32)), (.int (p2.toInt8.toInt32))]) (rest := []) (lenOf pd_12 rfl) rfl (W := 0) (Nat.le_of_eq rfl) rfl (fun hn9 => Met.back (rm := R_m_put0) (m_put0 hw b142 (4 : Int32) (p2.toInt8.toInt32) (6 : Int32) (upd (upd (upd (upd (fun _ => (.int 0)) 0 (.int (48 : Int32))) 1 (.int (4 : Int32))) 2 (.int (5 : Int32))) 3 (.int (0 : Int32))) A142 gb142 (by decide) (by decide) (by decide) (by decide)) hn9 C.hZ (hw _ (List.mem_of_getElem? (i := 57) rfl)) (hw _ (List.mem_of_getElem? (i := 56) rfl)) (by decide) (by decide)) (k' := 1) (n' := 6) rfl rfl (by decide) (by decide) ?_
  rintro _ h148 ⟨rfl, Kp, Ap⟩
  have X := X.keep Kp (allS gb142 all0)
  have E_SEQUENCE := E_SEQUENCE.keep Kp
  have F_SEQUENCE := F_SEQUENCE.keep Kp (ninS ne_t_SEQUENCE_b142 nin0)
  have E_NULL := E_NULL.keep Kp
  have F_NULL := F_NULL.keep Kp (ninS ne_t_NULL_b142 nin0)
  have E_OCTET_STRING := E_OCTET_STRING.keep Kp
  have F_OCTET_STRING := F_OCTET_STRING.keep Kp (ninS ne_t_OCTET_STRING_b142 nin0)
  have A142 : Arf Z h148 b142 "[B" .byte (6 : Int32) (upd (upd (upd (upd (upd (upd (fun _ => (.int 0)) 0 (.int (48 : Int32))) 1 (.int (4 : Int32))) 2 (.int (5 : Int32))) 3 (.int (0 : Int32))) 4 (.int (5 : Int32))) 5 (.int (0 : Int32))) := Ap
  show Go w l _ n0 _ h148 1 6 206 #[.val (.int p0), .val (.int p1), .val (.int p2), .val (.int p3), .val (.int (2 : Int32)), .val (.int (0 : Int32)), .val (.int (0 : Int32)), .val (.int (0 : Int32)), .val (.int (2 : Int32)), .val (.int (2 : Int32)), .val (.int (4 : Int32)), .val (.int (6 : Int32)), .val (.ref b142), .val (.int (4 : Int32)), .unset, .unset, .unset] [(.int (6 : Int32))]
  refine g_istore C at_206 (pc' := 208) rfl (Ls' := #[.val (.int p0), .val (.int p1), .val (.int p2), .val (.int p3), .val (.int (2 : Int32)), .val (.int (0 : Int32)), .val (.int (0 : Int32)), .val (.int (0 : Int32)), .val (.int (2 : Int32)), .val (.int (2 : Int32)), .val (.int (4 : Int32)), .val (.int (6 : Int32)), .val (.ref b142), .val (.int (6 : Int32)), .unset, .unset, .unset]) rfl ?_
  refine g_iload C at_208 (pc' := 210) rfl rfl ?_
  refine g_if_eq C at_210 (by decide) (pc' := 220) (by decide) (pcN := 213) rfl (fun _ => ?_) (fun q => absurd rfl q)
  refine g_new C (hw _ (List.mem_of_getElem? (i := 0) rfl)) (hw _ (List.mem_of_getElem? (i := 1) rfl)) (hw _ (List.mem_of_getElem? (i := 2) rfl)) at_220 (pc' := 223) rfl (k' := 2) (n' := 9) rfl rfl (by decide) (by decide) ?_
  intro h149 b149 E149 fb149 gb149 A149 D149
  have ne_t_SEQUENCE_b149 : t_SEQUENCE ≠ b149 := Nat.ne_of_lt (Nat.lt_of_lt_of_le E_SEQUENCE.lt fb149)
  have ne_t_NULL_b149 : t_NULL ≠ b149 := Nat.ne_of_lt (Nat.lt_of_lt_of_le E_NULL.lt fb149)
  have ne_t_OCTET_STRING_b149 : t_OCTET_STRING ≠ b149 := Nat.ne_of_lt (Nat.lt_of_lt_of_le E_OCTET_STRING.lt fb149)
  have ne_b142_b149 : b142 ≠ b149 := Nat.ne_of_lt (Nat.lt_of_lt_of_le A142.lt fb149)
  have X := X.ext E149
  have E_SEQUENCE := E_SEQUENCE.ext E149
  have F_SEQUENCE := F_SEQUENCE.ext E149
  have E_NULL := E_NULL.ext E149
  have F_NULL := F_NULL.ext E149
  have E_OCTET_STRING := E_OCTET_STRING.ext E149
  have F_OCTET_STRING := F_OCTET_STRING.ext E149
  have A142 := A142.ext E149
  have F149_der : Fld Z h149 b149 "com/example/sigillum/sigillum/codec/DerReader" "der" "[B" .null := D149 (Or.inr (hw _ (List.mem_of_getElem? (i := 23) rfl))) (ty := (.array .byte)) (by decide)
  have F149_position : Fld Z h149 b149 "com/example/sigillum/sigillum/codec/DerReader" "position" "I" (.int (0 : Int32)) := D149 (Or.inl (hw _ (List.mem_of_getElem? (i := 25) rfl))) (ty := .int) (by decide)
  have F149_end : Fld Z h149 b149 "com/example/sigillum/sigillum/codec/DerReader" "end" "I" (.int (0 : Int32)) := D149 (Or.inr (hw _ (List.mem_of_getElem? (i := 27) rfl))) (ty := .int) (by decide)
  refine g_dup C at_223 (pc' := 224) rfl rfl ?_
  refine g_aload C at_224 (pc' := 226) rfl rfl rfl ?_
  refine g_special (rm := R_m_init1) (a := b149) C (y := (⟨"com/example/sigillum/sigillum/codec/DerReader", "<init>", "([B)V"⟩ : MethodName)) rfl (hw _ (List.mem_of_getElem? (i := 4) rfl)) (hw _ (List.mem_of_getElem? (i := 5) rfl)) (hw _ (List.mem_of_getElem? (i := 6) rfl)) (by decide) at_226 (pc' := 229) rfl (argsL := [(.ref b142)]) (rest := [(.ref b149)]) (lenOf pd_10 rfl) rfl (W := 1) (Nat.le_of_eq rfl) rfl (fun hn9 => Met.back (rm := R_m_init1) (m_init1 hw b149 b142 (6 : Int32) (upd (upd (upd (upd (upd (upd (fun _ => (.int 0)) 0 (.int (48 : Int32))) 1 (.int (4 : Int32))) 2 (.int (5 : Int32))) 3 (.int (0 : Int32))) 4 (.int (5 : Int32))) 5 (.int (0 : Int32))) ⟨A149, F149_der, F149_position, F149_end⟩ A142 (by decide) gb149) hn9 C.hZ (hw _ (List.mem_of_getElem? (i := 6) rfl)) (hw _ (List.mem_of_getElem? (i := 2) rfl)) (by decide) (by decide)) (k' := 3) (n' := 18) rfl rfl (by decide) (by decide) ?_
  rintro _ h150 ⟨rfl, Ki, t_b149, ft_b149, gt_b149, ⟨E_b149, F1_b149, F2_b149, F3_b149⟩, At_b149⟩
  have ne_t_SEQUENCE_t_b149 : t_SEQUENCE ≠ t_b149 := Nat.ne_of_lt (Nat.lt_of_lt_of_le E_SEQUENCE.lt ft_b149)
  have ne_t_NULL_t_b149 : t_NULL ≠ t_b149 := Nat.ne_of_lt (Nat.lt_of_lt_of_le E_NULL.lt ft_b149)
  have ne_t_OCTET_STRING_t_b149 : t_OCTET_STRING ≠ t_b149 := Nat.ne_of_lt (Nat.lt_of_lt_of_le E_OCTET_STRING.lt ft_b149)
  have ne_b142_t_b149 : b142 ≠ t_b149 := Nat.ne_of_lt (Nat.lt_of_lt_of_le A142.lt ft_b149)
  have ne_b149_t_b149 : b149 ≠ t_b149 := Nat.ne_of_lt (Nat.lt_of_lt_of_le A149.lt ft_b149)
  have X := X.keep Ki (allS gb149 all0)
  have E_SEQUENCE := E_SEQUENCE.keep Ki
  have F_SEQUENCE := F_SEQUENCE.keep Ki (ninS ne_t_SEQUENCE_b149 nin0)
  have E_NULL := E_NULL.keep Ki
  have F_NULL := F_NULL.keep Ki (ninS ne_t_NULL_b149 nin0)
  have E_OCTET_STRING := E_OCTET_STRING.keep Ki
  have F_OCTET_STRING := F_OCTET_STRING.keep Ki (ninS ne_t_OCTET_STRING_b149 nin0)
  have A142 := A142.keep Ki (ninS ne_b142_b149 nin0)
  have A149 := A149.keep Ki
  show Go w l _ n0 _ h150 3 18 229 #[.val (.int p0), .val (.int p1), .val (.int p2), .val (.int p3), .val (.int (2 : Int32)), .val (.int (0 : Int32)), .val (.int (0 : Int32)), .val (.int (0 : Int32)), .val (.int (2 : Int32)), .val (.int (2 : Int32)), .val (.int (4 : Int32)), .val (.int (6 : Int32)), .val (.ref b142), .val (.int (6 : Int32)), .unset, .unset, .unset] [(.ref b149)]
  refine g_astore C at_229 (pc' := 231) rfl rfl (Ls' := #[.val (.int p0), .val (.int p1), .val (.int p2), .val (.int p3), .val (.int (2 : Int32)), .val (.int (0 : Int32)), .val (.int (0 : Int32)), .val (.int (0 : Int32)), .val (.int (2 : Int32)), .val (.int (2 : Int32)), .val (.int (4 : Int32)), .val (.int (6 : Int32)), .val (.ref b142), .val (.int (6 : Int32)), .val (.ref b149), .unset, .unset]) rfl ?_
  refine g_aload C at_231 (pc' := 233) rfl rfl rfl ?_
  refine g_virtual (rm := R_m_hasMore) (a := b149) C (y := (⟨"com/example/sigillum/sigillum/codec/DerReader", "hasMore", "()Z"⟩ : MethodName)) (y' := (⟨"com/example/sigillum/sigillum/codec/DerReader", "hasMore", "()Z"⟩ : MethodName)) (hw _ (List.mem_of_getElem? (i := 28) rfl)) (hw _ (List.mem_of_getElem? (i := 29) rfl)) (g_nf C (hw _ (List.mem_of_getElem? (i := 31) rfl))) (hw _ (List.mem_of_getElem? (i := 31) rfl)) (hw _ (List.mem_of_getElem? (i := 30) rfl)) (by decide) E_b149 at_233 (pc' := 236) rfl (argsL := []) (rest := []) (lenOf pd_1 rfl) rfl (W := 0) (Nat.le_of_eq rfl) rfl (fun hn9 => Met.back (rm := R_m_hasMore) (m_hasMore hw b149 (0 : Int32) (6 : Int32) F2_b149 F3_b149) hn9 C.hZ (hw _ (List.mem_of_getElem? (i := 32) rfl)) (hw _ (List.mem_of_getElem? (i := 2) rfl)) (by decide) (by decide)) (k' := 3) (n' := 18) rfl rfl (by decide) (by decide) ?_
  rintro _ _ ⟨rfl, rfl⟩
  show Go w l _ n0 _ h150 3 18 236 #[.val (.int p0), .val (.int p1), .val (.int p2), .val (.int p3), .val (.int (2 : Int32)), .val (.int (0 : Int32)), .val (.int (0 : Int32)), .val (.int (0 : Int32)), .val (.int (2 : Int32)), .val (.int (2 : Int32)), .val (.int (4 : Int32)), .val (.int (6 : Int32)), .val (.ref b142), .val (.int (6 : Int32)), .val (.ref b149), .unset, .unset] [(.int (1 : Int32))]
  refine g_istore C at_236 (pc' := 238) rfl (Ls' := #[.val (.int p0), .val (.int p1), .val (.int p2), .val (.int p3), .val (.int (2 : Int32)), .val (.int (0 : Int32)), .val (.int (0 : Int32)), .val (.int (0 : Int32)), .val (.int (2 : Int32)), .val (.int (2 : Int32)), .val (.int (4 : Int32)), .val (.int (6 : Int32)), .val (.ref b142), .val (.int (6 : Int32)), .val (.ref b149), .val (.int (1 : Int32)), .unset]) rfl ?_
  refine g_aload C at_238 (pc' := 240) rfl rfl rfl ?_
  refine g_virtual (rm := R_m_seq) (a := b149) C (y := (⟨"com/example/sigillum/sigillum/codec/DerReader", "sequence", "()Lcom/example/sigillum/sigillum/codec/DerReader;"⟩ : MethodName)) (y' := (⟨"com/example/sigillum/sigillum/codec/DerReader", "sequence", "()Lcom/example/sigillum/sigillum/codec/DerReader;"⟩ : MethodName)) (hw _ (List.mem_of_getElem? (i := 33) rfl)) (hw _ (List.mem_of_getElem? (i := 34) rfl)) (g_nf C (hw _ (List.mem_of_getElem? (i := 36) rfl))) (hw _ (List.mem_of_getElem? (i := 36) rfl)) (hw _ (List.mem_of_getElem? (i := 35) rfl)) (by decide) E_b149 at_240 (pc' := 243) rfl (argsL := []) (rest := []) (lenOf pd_11 rfl) rfl (W := 0) (Nat.le_of_eq rfl) rfl (fun hn9 => Met.back (rm := R_m_seq) (m_seq hw b149 t_b149 t_SEQUENCE (0 : Int32) (6 : Int32) (6 : Int32) (48 : Int32) (4 : Int32) (4 : Int32) (48 : Int32) (2 : Int32) (upd (upd (upd (upd (upd (upd (fun _ => (.int 0)) 0 (.int (48 : Int32))) 1 (.int (4 : Int32))) 2 (.int (5 : Int32))) 3 (.int (0 : Int32))) 4 (.int (5 : Int32))) 5 (.int (0 : Int32))) (6 : Int32) ⟨E_b149, F1_b149, F2_b149, F3_b149⟩ At_b149 E_SEQUENCE F_SEQUENCE gb149 (Ne.symm ne_b149_t_b149) (by decide) (by decide) (by decide) rfl (by decide) (by decide) (by decide) (by decide) rfl (by decide) (by decide) (by decide) (by decide) (by decide) (S_SEQUENCE.ext X.2)) hn9 C.hZ (hw _ (List.mem_of_getElem? (i := 37) rfl)) (hw _ (List.mem_of_getElem? (i := 2) rfl)) (by decide) (by decide)) (k' := 4) (n' := 21) rfl rfl (by decide) (by decide) ?_
  rintro _ h151 ⟨sq, rfl, fsq, gsq, Ks, ⟨E_b149, F1_b149, F2_b149, F3_b149⟩, ⟨E_sq, F1_sq, F2_sq, F3_sq⟩⟩
  have ne_t_SEQUENCE_sq : t_SEQUENCE ≠ sq := Nat.ne_of_lt (Nat.lt_of_lt_of_le E_SEQUENCE.lt fsq)
  have ne_t_NULL_sq : t_NULL ≠ sq := Nat.ne_of_lt (Nat.lt_of_lt_of_le E_NULL.lt fsq)
  have ne_t_OCTET_STRING_sq : t_OCTET_STRING ≠ sq := Nat.ne_of_lt (Nat.lt_of_lt_of_le E_OCTET_STRING.lt fsq)
  have ne_b142_sq : b142 ≠ sq := Nat.ne_of_lt (Nat.lt_of_lt_of_le A142.lt fsq)
  have ne_t_b149_sq : t_b149 ≠ sq := Nat.ne_of_lt (Nat.lt_of_lt_of_le At_b149.lt fsq)
  have X := X.keep Ks (allS gb149 all0)
  have E_SEQUENCE := E_SEQUENCE.keep Ks
  have F_SEQUENCE := F_SEQUENCE.keep Ks (ninS ne_t_SEQUENCE_b149 nin0)
  have E_NULL := E_NULL.keep Ks
  have F_NULL := F_NULL.keep Ks (ninS ne_t_NULL_b149 nin0)
  have E_OCTET_STRING := E_OCTET_STRING.keep Ks
  have F_OCTET_STRING := F_OCTET_STRING.keep Ks (ninS ne_t_OCTET_STRING_b149 nin0)
  have A142 := A142.keep Ks (ninS ne_b142_b149 nin0)
  have At_b149 := At_b149.keep Ks (ninS (Ne.symm ne_b149_t_b149) nin0)
  show Go w l _ n0 _ h151 4 21 243 #[.val (.int p0), .val (.int p1), .val (.int p2), .val (.int p3), .val (.int (2 : Int32)), .val (.int (0 : Int32)), .val (.int (0 : Int32)), .val (.int (0 : Int32)), .val (.int (2 : Int32)), .val (.int (2 : Int32)), .val (.int (4 : Int32)), .val (.int (6 : Int32)), .val (.ref b142), .val (.int (6 : Int32)), .val (.ref b149), .val (.int (1 : Int32)), .unset] [(.ref sq)]
  refine g_astore C at_243 (pc' := 245) rfl rfl (Ls' := #[.val (.int p0), .val (.int p1), .val (.int p2), .val (.int p3), .val (.int (2 : Int32)), .val (.int (0 : Int32)), .val (.int (0 : Int32)), .val (.int (0 : Int32)), .val (.int (2 : Int32)), .val (.int (2 : Int32)), .val (.int (4 : Int32)), .val (.int (6 : Int32)), .val (.ref b142), .val (.int (6 : Int32)), .val (.ref b149), .val (.int (1 : Int32)), .val (.ref sq)]) rfl ?_
  refine g_iload C at_245 (pc' := 247) rfl rfl ?_
  refine g_if_eq C at_247 (by decide) (pc' := 264) (by decide) (pcN := 250) rfl (fun q => absurd q (by decide)) (fun _ => ?_)
  refine g_aload C at_250 (pc' := 252) rfl rfl rfl ?_
  refine g_virtual (rm := R_m_hasMore) (a := b149) C (y := (⟨"com/example/sigillum/sigillum/codec/DerReader", "hasMore", "()Z"⟩ : MethodName)) (y' := (⟨"com/example/sigillum/sigillum/codec/DerReader", "hasMore", "()Z"⟩ : MethodName)) (hw _ (List.mem_of_getElem? (i := 28) rfl)) (hw _ (List.mem_of_getElem? (i := 29) rfl)) (g_nf C (hw _ (List.mem_of_getElem? (i := 31) rfl))) (hw _ (List.mem_of_getElem? (i := 31) rfl)) (hw _ (List.mem_of_getElem? (i := 30) rfl)) (by decide) E_b149 at_252 (pc' := 255) rfl (argsL := []) (rest := []) (lenOf pd_1 rfl) rfl (W := 0) (Nat.le_of_eq rfl) rfl (fun hn9 => Met.back (rm := R_m_hasMore) (m_hasMore hw b149 (6 : Int32) (6 : Int32) F2_b149 F3_b149) hn9 C.hZ (hw _ (List.mem_of_getElem? (i := 32) rfl)) (hw _ (List.mem_of_getElem? (i := 2) rfl)) (by decide) (by decide)) (k' := 4) (n' := 21) rfl rfl (by decide) (by decide) ?_
  rintro _ _ ⟨rfl, rfl⟩
  show Go w l _ n0 _ h151 4 21 255 #[.val (.int p0), .val (.int p1), .val (.int p2), .val (.int p3), .val (.int (2 : Int32)), .val (.int (0 : Int32)), .val (.int (0 : Int32)), .val (.int (0 : Int32)), .val (.int (2 : Int32)), .val (.int (2 : Int32)), .val (.int (4 : Int32)), .val (.int (6 : Int32)), .val (.ref b142), .val (.int (6 : Int32)), .val (.ref b149), .val (.int (1 : Int32)), .val (.ref sq)] [(.int (0 : Int32))]
  refine g_iload C at_255 (pc' := 257) rfl rfl ?_
  refine g_icmp_ne C at_257 (by decide) (pc' := 264) (by decide) (pcN := 260) rfl (fun q => absurd rfl q) (fun _ => ?_)
  refine g_iconst C (z := (1 : Int32)) at_260 (pc' := 261) rfl rfl ?_
  refine g_goto C at_261 (by decide) (pc' := 265) (by decide) ?_
  refine g_istore C at_265 (pc' := 267) rfl (Ls' := #[.val (.int p0), .val (.int p1), .val (.int p2), .val (.int p3), .val (.int (2 : Int32)), .val (.int (0 : Int32)), .val (.int (0 : Int32)), .val (.int (0 : Int32)), .val (.int (2 : Int32)), .val (.int (2 : Int32)), .val (.int (4 : Int32)), .val (.int (6 : Int32)), .val (.ref b142), .val (.int (6 : Int32)), .val (.ref b149), .val (.int (1 : Int32)), .val (.ref sq)]) rfl ?_
  refine g_iload C at_267 (pc' := 269) rfl rfl ?_
  refine g_if_eq C at_269 (by decide) (pc' := 294) (by decide) (pcN := 272) rfl (fun q => absurd q (by decide)) (fun _ => ?_)
  refine g_aload C at_272 (pc' := 274) rfl rfl rfl ?_
  refine g_virtual (rm := R_m_hasMore) (a := sq) C (y := (⟨"com/example/sigillum/sigillum/codec/DerReader", "hasMore", "()Z"⟩ : MethodName)) (y' := (⟨"com/example/sigillum/sigillum/codec/DerReader", "hasMore", "()Z"⟩ : MethodName)) (hw _ (List.mem_of_getElem? (i := 28) rfl)) (hw _ (List.mem_of_getElem? (i := 29) rfl)) (g_nf C (hw _ (List.mem_of_getElem? (i := 31) rfl))) (hw _ (List.mem_of_getElem? (i := 31) rfl)) (hw _ (List.mem_of_getElem? (i := 30) rfl)) (by decide) E_sq at_274 (pc' := 277) rfl (argsL := []) (rest := []) (lenOf pd_1 rfl) rfl (W := 0) (Nat.le_of_eq rfl) rfl (fun hn9 => Met.back (rm := R_m_hasMore) (m_hasMore hw sq (2 : Int32) (6 : Int32) F2_sq F3_sq) hn9 C.hZ (hw _ (List.mem_of_getElem? (i := 32) rfl)) (hw _ (List.mem_of_getElem? (i := 2) rfl)) (by decide) (by decide)) (k' := 4) (n' := 21) rfl rfl (by decide) (by decide) ?_
  rintro _ _ ⟨rfl, rfl⟩
  show Go w l _ n0 _ h151 4 21 277 #[.val (.int p0), .val (.int p1), .val (.int p2), .val (.int p3), .val (.int (2 : Int32)), .val (.int (0 : Int32)), .val (.int (0 : Int32)), .val (.int (0 : Int32)), .val (.int (2 : Int32)), .val (.int (2 : Int32)), .val (.int (4 : Int32)), .val (.int (6 : Int32)), .val (.ref b142), .val (.int (6 : Int32)), .val (.ref b149), .val (.int (1 : Int32)), .val (.ref sq)] [(.int (1 : Int32))]
  refine g_iload C at_277 (pc' := 279) rfl rfl ?_
  refine g_if_le C at_279 (by decide) (pc' := 286) (by decide) (pcN := 282) rfl (fun q => absurd q (by decide)) (fun _ => ?_)
  refine g_iconst C (z := (1 : Int32)) at_282 (pc' := 283) rfl rfl ?_
  refine g_goto C at_283 (by decide) (pc' := 287) (by decide) ?_
  refine g_icmp_ne C at_287 (by decide) (pc' := 294) (by decide) (pcN := 290) rfl (fun q => absurd rfl q) (fun _ => ?_)
  refine g_iconst C (z := (1 : Int32)) at_290 (pc' := 291) rfl rfl ?_
  refine g_goto C at_291 (by decide) (pc' := 295) (by decide) ?_
  refine g_istore C at_295 (pc' := 297) rfl (Ls' := #[.val (.int p0), .val (.int p1), .val (.int p2), .val (.int p3), .val (.int (2 : Int32)), .val (.int (0 : Int32)), .val (.int (0 : Int32)), .val (.int (0 : Int32)), .val (.int (2 : Int32)), .val (.int (2 : Int32)), .val (.int (4 : Int32)), .val (.int (6 : Int32)), .val (.ref b142), .val (.int (6 : Int32)), .val (.ref b149), .val (.int (1 : Int32)), .val (.ref sq)]) rfl ?_
  refine g_iload C at_297 (pc' := 299) rfl rfl ?_
  refine g_if_le C at_299 (by decide) (pc' := 340) (by decide) (pcN := 302) rfl (fun q => absurd q (by decide)) (fun _ => ?_)
  refine g_aload C at_302 (pc' := 304) rfl rfl rfl ?_
  refine g_iload C at_304 (pc' := 306) rfl rfl ?_
  refine g_static (rm := R_m_read0) C (y := (⟨"com/example/sigillum/sigillum/codec/DerReaderHasMorePinLaw", "read", "(Lcom/example/sigillum/sigillum/codec/DerReader;Z)V"⟩ : MethodName)) (hw _ (List.mem_of_getElem? (i := 58) rfl)) (hw _ (List.mem_of_getElem? (i := 59) rfl)) (hw _ (List.mem_of_getElem? (i := 56) rfl)) (hw _ (List.mem_of_getElem? (i := 60) rfl)) (by decide) at_306 (pc' := 309) rfl (argsL := [(.ref sq), (.int (0 : Int32))]) (rest := []) (lenOf pd_13 rfl) rfl (W := 0) (Nat.le_of_eq rfl) rfl (fun hn9 => Met.back (rm := R_m_read0) (m_read0 hw sq t_b149 t_NULL (2 : Int32) (6 : Int32) (6 : Int32) (5 : Int32) (0 : Int32) (0 : Int32) (5 : Int32) (4 : Int32) (upd (upd (upd (upd (upd (upd (fun _ => (.int 0)) 0 (.int (48 : Int32))) 1 (.int (4 : Int32))) 2 (.int (5 : Int32))) 3 (.int (0 : Int32))) 4 (.int (5 : Int32))) 5 (.int (0 : Int32))) ⟨E_sq, F1_sq, F2_sq, F3_sq⟩ At_b149 E_NULL F_NULL gsq ne_t_b149_sq (by decide) (by decide) (by decide) rfl (by decide) (by decide) (by decide) (by decide) rfl (by decide) (by decide) (by decide) (by decide) (4 : Int32) (0 : Int32) (by decide) (by decide) (by decide) (by decide) (by decide) (by decide) (by decide) (by decide) (by decide) (by decide) (by decide) (by decide) (S_NULL.ext X.2)) hn9 C.hZ (hw _ (List.mem_of_getElem? (i := 60) rfl)) (hw _ (List.mem_of_getElem? (i := 56) rfl)) (by decide) (by decide)) (k' := 5) (n' := 24) rfl rfl (by decide) (by decide) ?_
  rintro _ h152 ⟨rfl, Kr, ⟨E_sq, F1_sq, F2_sq, F3_sq⟩⟩
  have X := X.keep Kr (allS gsq all0)
  have E_SEQUENCE := E_SEQUENCE.keep Kr
  have F_SEQUENCE := F_SEQUENCE.keep Kr (ninS ne_t_SEQUENCE_sq nin0)
  have E_NULL := E_NULL.keep Kr
  have F_NULL := F_NULL.keep Kr (ninS ne_t_NULL_sq nin0)
  have E_OCTET_STRING := E_OCTET_STRING.keep Kr
  have F_OCTET_STRING := F_OCTET_STRING.keep Kr (ninS ne_t_OCTET_STRING_sq nin0)
  have A142 := A142.keep Kr (ninS ne_b142_sq nin0)
  have At_b149 := At_b149.keep Kr (ninS ne_t_b149_sq nin0)
  have E_b149 := E_b149.keep Kr
  show Go w l _ n0 _ h152 5 24 309 #[.val (.int p0), .val (.int p1), .val (.int p2), .val (.int p3), .val (.int (2 : Int32)), .val (.int (0 : Int32)), .val (.int (0 : Int32)), .val (.int (0 : Int32)), .val (.int (2 : Int32)), .val (.int (2 : Int32)), .val (.int (4 : Int32)), .val (.int (6 : Int32)), .val (.ref b142), .val (.int (6 : Int32)), .val (.ref b149), .val (.int (1 : Int32)), .val (.ref sq)] []
  refine g_iload C at_309 (pc' := 311) rfl rfl ?_
  refine g_if_eq C at_311 (by decide) (pc' := 337) (by decide) (pcN := 314) rfl (fun q => absurd q (by decide)) (fun _ => ?_)
  refine g_aload C at_314 (pc' := 316) rfl rfl rfl ?_
  refine g_virtual (rm := R_m_hasMore) (a := sq) C (y := (⟨"com/example/sigillum/sigillum/codec/DerReader", "hasMore", "()Z"⟩ : MethodName)) (y' := (⟨"com/example/sigillum/sigillum/codec/DerReader", "hasMore", "()Z"⟩ : MethodName)) (hw _ (List.mem_of_getElem? (i := 28) rfl)) (hw _ (List.mem_of_getElem? (i := 29) rfl)) (g_nf C (hw _ (List.mem_of_getElem? (i := 31) rfl))) (hw _ (List.mem_of_getElem? (i := 31) rfl)) (hw _ (List.mem_of_getElem? (i := 30) rfl)) (by decide) E_sq at_316 (pc' := 319) rfl (argsL := []) (rest := []) (lenOf pd_1 rfl) rfl (W := 0) (Nat.le_of_eq rfl) rfl (fun hn9 => Met.back (rm := R_m_hasMore) (m_hasMore hw sq (4 : Int32) (6 : Int32) F2_sq F3_sq) hn9 C.hZ (hw _ (List.mem_of_getElem? (i := 32) rfl)) (hw _ (List.mem_of_getElem? (i := 2) rfl)) (by decide) (by decide)) (k' := 5) (n' := 24) rfl rfl (by decide) (by decide) ?_
  rintro _ _ ⟨rfl, rfl⟩
  show Go w l _ n0 _ h152 5 24 319 #[.val (.int p0), .val (.int p1), .val (.int p2), .val (.int p3), .val (.int (2 : Int32)), .val (.int (0 : Int32)), .val (.int (0 : Int32)), .val (.int (0 : Int32)), .val (.int (2 : Int32)), .val (.int (2 : Int32)), .val (.int (4 : Int32)), .val (.int (6 : Int32)), .val (.ref b142), .val (.int (6 : Int32)), .val (.ref b149), .val (.int (1 : Int32)), .val (.ref sq)] [(.int (1 : Int32))]
  refine g_iload C at_319 (pc' := 321) rfl rfl ?_
  refine g_iconst C (z := (1 : Int32)) at_321 (pc' := 322) rfl rfl ?_
  refine g_icmp_le C at_322 (by decide) (pc' := 329) (by decide) (pcN := 325) rfl (fun q => absurd q (by decide)) (fun _ => ?_)
  refine g_iconst C (z := (1 : Int32)) at_325 (pc' := 326) rfl rfl ?_
  refine g_goto C at_326 (by decide) (pc' := 330) (by decide) ?_
  refine g_icmp_ne C at_330 (by decide) (pc' := 337) (by decide) (pcN := 333) rfl (fun q => absurd rfl q) (fun _ => ?_)
  refine g_iconst C (z := (1 : Int32)) at_333 (pc' := 334) rfl rfl ?_
  refine g_goto C at_334 (by decide) (pc' := 338) (by decide) ?_
  refine g_istore C at_338 (pc' := 340) rfl (Ls' := #[.val (.int p0), .val (.int p1), .val (.int p2), .val (.int p3), .val (.int (2 : Int32)), .val (.int (0 : Int32)), .val (.int (0 : Int32)), .val (.int (0 : Int32)), .val (.int (2 : Int32)), .val (.int (2 : Int32)), .val (.int (4 : Int32)), .val (.int (6 : Int32)), .val (.ref b142), .val (.int (6 : Int32)), .val (.ref b149), .val (.int (1 : Int32)), .val (.ref sq)]) rfl ?_
  refine g_iload C at_340 (pc' := 342) rfl rfl ?_
  refine g_iconst C (z := (1 : Int32)) at_342 (pc' := 343) rfl rfl ?_
  refine g_icmp_le C at_343 (by decide) (pc' := 373) (by decide) (pcN := 346) rfl (fun q => absurd q (by decide)) (fun _ => ?_)
  refine g_aload C at_346 (pc' := 348) rfl rfl rfl ?_
  refine g_iload C at_348 (pc' := 350) rfl rfl ?_
  refine g_static (rm := R_m_read0) C (y := (⟨"com/example/sigillum/sigillum/codec/DerReaderHasMorePinLaw", "read", "(Lcom/example/sigillum/sigillum/codec/DerReader;Z)V"⟩ : MethodName)) (hw _ (List.mem_of_getElem? (i := 58) rfl)) (hw _ (List.mem_of_getElem? (i := 59) rfl)) (hw _ (List.mem_of_getElem? (i := 56) rfl)) (hw _ (List.mem_of_getElem? (i := 60) rfl)) (by decide) at_350 (pc' := 353) rfl (argsL := [(.ref sq), (.int (0 : Int32))]) (rest := []) (lenOf pd_13 rfl) rfl (W := 0) (Nat.le_of_eq rfl) rfl (fun hn9 => Met.back (rm := R_m_read0) (m_read0 hw sq t_b149 t_NULL (4 : Int32) (6 : Int32) (6 : Int32) (5 : Int32) (0 : Int32) (0 : Int32) (5 : Int32) (6 : Int32) (upd (upd (upd (upd (upd (upd (fun _ => (.int 0)) 0 (.int (48 : Int32))) 1 (.int (4 : Int32))) 2 (.int (5 : Int32))) 3 (.int (0 : Int32))) 4 (.int (5 : Int32))) 5 (.int (0 : Int32))) ⟨E_sq, F1_sq, F2_sq, F3_sq⟩ At_b149 E_NULL F_NULL gsq ne_t_b149_sq (by decide) (by decide) (by decide) rfl (by decide) (by decide) (by decide) (by decide) rfl (by decide) (by decide) (by decide) (by decide) (6 : Int32) (0 : Int32) (by decide) (by decide) (by decide) (by decide) (by decide) (by decide) (by decide) (by decide) (by decide) (by decide) (by decide) (by decide) (S_NULL.ext X.2)) hn9 C.hZ (hw _ (List.mem_of_getElem? (i := 60) rfl)) (hw _ (List.mem_of_getElem? (i := 56) rfl)) (by decide) (by decide)) (k' := 6) (n' := 27) rfl rfl (by decide) (by decide) ?_
  rintro _ h153 ⟨rfl, Kr, ⟨E_sq, F1_sq, F2_sq, F3_sq⟩⟩
  have X := X.keep Kr (allS gsq all0)
  have E_SEQUENCE := E_SEQUENCE.keep Kr
  have F_SEQUENCE := F_SEQUENCE.keep Kr (ninS ne_t_SEQUENCE_sq nin0)
  have E_NULL := E_NULL.keep Kr
  have F_NULL := F_NULL.keep Kr (ninS ne_t_NULL_sq nin0)
  have E_OCTET_STRING := E_OCTET_STRING.keep Kr
  have F_OCTET_STRING := F_OCTET_STRING.keep Kr (ninS ne_t_OCTET_STRING_sq nin0)
  have A142 := A142.keep Kr (ninS ne_b142_sq nin0)
  have At_b149 := At_b149.keep Kr (ninS ne_t_b149_sq nin0)
  have E_b149 := E_b149.keep Kr
  show Go w l _ n0 _ h153 6 27 353 #[.val (.int p0), .val (.int p1), .val (.int p2), .val (.int p3), .val (.int (2 : Int32)), .val (.int (0 : Int32)), .val (.int (0 : Int32)), .val (.int (0 : Int32)), .val (.int (2 : Int32)), .val (.int (2 : Int32)), .val (.int (4 : Int32)), .val (.int (6 : Int32)), .val (.ref b142), .val (.int (6 : Int32)), .val (.ref b149), .val (.int (1 : Int32)), .val (.ref sq)] []
  refine g_iload C at_353 (pc' := 355) rfl rfl ?_
  refine g_if_eq C at_355 (by decide) (pc' := 370) (by decide) (pcN := 358) rfl (fun q => absurd q (by decide)) (fun _ => ?_)
  refine g_aload C at_358 (pc' := 360) rfl rfl rfl ?_
  refine g_virtual (rm := R_m_hasMore) (a := sq) C (y := (⟨"com/example/sigillum/sigillum/codec/DerReader", "hasMore", "()Z"⟩ : MethodName)) (y' := (⟨"com/example/sigillum/sigillum/codec/DerReader", "hasMore", "()Z"⟩ : MethodName)) (hw _ (List.mem_of_getElem? (i := 28) rfl)) (hw _ (List.mem_of_getElem? (i := 29) rfl)) (g_nf C (hw _ (List.mem_of_getElem? (i := 31) rfl))) (hw _ (List.mem_of_getElem? (i := 31) rfl)) (hw _ (List.mem_of_getElem? (i := 30) rfl)) (by decide) E_sq at_360 (pc' := 363) rfl (argsL := []) (rest := []) (lenOf pd_1 rfl) rfl (W := 0) (Nat.le_of_eq rfl) rfl (fun hn9 => Met.back (rm := R_m_hasMore) (m_hasMore hw sq (6 : Int32) (6 : Int32) F2_sq F3_sq) hn9 C.hZ (hw _ (List.mem_of_getElem? (i := 32) rfl)) (hw _ (List.mem_of_getElem? (i := 2) rfl)) (by decide) (by decide)) (k' := 6) (n' := 27) rfl rfl (by decide) (by decide) ?_
  rintro _ _ ⟨rfl, rfl⟩
  show Go w l _ n0 _ h153 6 27 363 #[.val (.int p0), .val (.int p1), .val (.int p2), .val (.int p3), .val (.int (2 : Int32)), .val (.int (0 : Int32)), .val (.int (0 : Int32)), .val (.int (0 : Int32)), .val (.int (2 : Int32)), .val (.int (2 : Int32)), .val (.int (4 : Int32)), .val (.int (6 : Int32)), .val (.ref b142), .val (.int (6 : Int32)), .val (.ref b149), .val (.int (1 : Int32)), .val (.ref sq)] [(.int (0 : Int32))]
  refine g_if_ne C at_363 (by decide) (pc' := 370) (by decide) (pcN := 366) rfl (fun q => absurd rfl q) (fun _ => ?_)
  refine g_iconst C (z := (1 : Int32)) at_366 (pc' := 367) rfl rfl ?_
  refine g_goto C at_367 (by decide) (pc' := 371) (by decide) ?_
  refine g_istore C at_371 (pc' := 373) rfl (Ls' := #[.val (.int p0), .val (.int p1), .val (.int p2), .val (.int p3), .val (.int (2 : Int32)), .val (.int (0 : Int32)), .val (.int (0 : Int32)), .val (.int (0 : Int32)), .val (.int (2 : Int32)), .val (.int (2 : Int32)), .val (.int (4 : Int32)), .val (.int (6 : Int32)), .val (.ref b142), .val (.int (6 : Int32)), .val (.ref b149), .val (.int (1 : Int32)), .val (.ref sq)]) rfl ?_
  refine g_iload C at_373 (pc' := 375) rfl rfl ?_
  exact g_retN C (t := .boolean) rfl (by simp) at_375 rfl (by decide) (by decide)
set_option maxRecDepth 65536 in
set_option maxHeartbeats 40000000 in
theorem seg82_2001 {l : Launch} {Z : State} {a0 : Array Value} (hw : ∀ d ∈ tables_1, d.before a0 Z = true) {w : Wk} {n0 : Nat} {h0 : Heap} {Y : State → Outcome → Prop} (p0 p1 p2 p3 : Int32) (t_SEQUENCE t_NULL t_OCTET_STRING : Addr) (C : Cx w Z "com/example/sigillum/sigillum/codec/DerReaderHasMorePinLaw" code 17 (some .boolean) "law" room_1 n0 (fun v _ => v = some (.int 1)) Y) (X : Old Z n0 h0) (S_SEQUENCE : Sta Z Z.heap "com/example/sigillum/sigillum/codec/DerTag" "SEQUENCE" "Lcom/example/sigillum/sigillum/codec/DerTag;" (.ref t_SEQUENCE)) (E_SEQUENCE : Exa Z h0 t_SEQUENCE "com/example/sigillum/sigillum/codec/DerTag") (F_SEQUENCE : Fld Z h0 t_SEQUENCE "com/example/sigillum/sigillum/codec/DerTag" "identifier" "I" (.int 48)) (S_NULL : Sta Z Z.heap "com/example/sigillum/sigillum/codec/DerTag" "NULL" "Lcom/example/sigillum/sigillum/codec/DerTag;" (.ref t_NULL)) (E_NULL : Exa Z h0 t_NULL "com/example/sigillum/sigillum/codec/DerTag") (F_NULL : Fld Z h0 t_NULL "com/example/sigillum/sigillum/codec/DerTag" "identifier" "I" (.int 5)) (S_OCTET_STRING : Sta Z Z.heap "com/example/sigillum/sigillum/codec/DerTag" "OCTET_STRING" "Lcom/example/sigillum/sigillum/codec/DerTag;" (.ref t_OCTET_STRING)) (E_OCTET_STRING : Exa Z h0 t_OCTET_STRING "com/example/sigillum/sigillum/codec/DerTag") (F_OCTET_STRING : Fld Z h0 t_OCTET_STRING "com/example/sigillum/sigillum/codec/DerTag" "identifier" "I" (.int 4)) :
    Go w l room_1 n0 Y h0 0 0 82 #[.val (.int p0), .val (.int p1), .val (.int p2), .val (.int p3), .val (.int (2 : Int32)), .val (.int (0 : Int32)), .val (.int (0 : Int32)), .val (.int (1 : Int32)), .unset, .unset, .unset, .unset, .unset, .unset, .unset, .unset, .unset] [] := by
  refine g_iload C at_82 (pc' := 84) rfl rfl ?_
  refine g_if_le C at_84 (by decide) (pc' := 100) (by decide) (pcN := 87) rfl (fun q => absurd q (by decide)) (fun _ => ?_)
  refine g_iload C at_87 (pc' := 89) rfl rfl ?_
  refine g_if_eq C at_89 (by decide) (pc' := 96) (by decide) (pcN := 92) rfl (fun _ => ?_) (fun q => absurd rfl q)
  refine g_iconst C (z := (2 : Int32)) at_96 (pc' := 97) rfl rfl ?_
  refine g_goto C at_97 (by decide) (pc' := 101) (by decide) ?_
  refine g_istore C at_101 (pc' := 103) rfl (Ls' := #[.val (.int p0), .val (.int p1), .val (.int p2), .val (.int p3), .val (.int (2 : Int32)), .val (.int (0 : Int32)), .val (.int (0 : Int32)), .val (.int (1 : Int32)), .val (.int (2 : Int32)), .unset, .unset, .unset, .unset, .unset, .unset, .unset, .unset]) rfl ?_
  refine g_iload C at_103 (pc' := 105) rfl rfl ?_
  refine g_iconst C (z := (1 : Int32)) at_105 (pc' := 106) rfl rfl ?_
  refine g_icmp_le C at_106 (by decide) (pc' := 122) (by decide) (pcN := 109) rfl (fun q => absurd q (by decide)) (fun _ => ?_)
  refine g_iload C at_109 (pc' := 111) rfl rfl ?_
  refine g_if_eq C at_111 (by decide) (pc' := 118) (by decide) (pcN := 114) rfl (fun _ => ?_) (fun q => absurd rfl q)
  refine g_iconst C (z := (2 : Int32)) at_118 (pc' := 119) rfl rfl ?_
  refine g_goto C at_119 (by decide) (pc' := 123) (by decide) ?_
  refine g_istore C at_123 (pc' := 125) rfl (Ls' := #[.val (.int p0), .val (.int p1), .val (.int p2), .val (.int p3), .val (.int (2 : Int32)), .val (.int (0 : Int32)), .val (.int (0 : Int32)), .val (.int (1 : Int32)), .val (.int (2 : Int32)), .val (.int (2 : Int32)), .unset, .unset, .unset, .unset, .unset, .unset, .unset]) rfl ?_
  refine g_iload C at_125 (pc' := 127) rfl rfl ?_
  refine g_iload C at_127 (pc' := 129) rfl rfl ?_
  refine g_iadd C at_129 (pc' := 130) rfl ?_
  show Go w l _ n0 _ h0 0 0 130 #[.val (.int p0), .val (.int p1), .val (.int p2), .val (.int p3), .val (.int (2 : Int32)), .val (.int (0 : Int32)), .val (.int (0 : Int32)), .val (.int (1 : Int32)), .val (.int (2 : Int32)), .val (.int (2 : Int32)), .unset, .unset, .unset, .unset, .unset, .unset, .unset] [(.int (4 : Int32))]
  refine g_istore C at_130 (pc' := 132) rfl (Ls' := #[.val (.int p0), .val (.int p1), .val (.int p2), .val (.int p3), .val (.int (2 : Int32)), .val (.int (0 : Int32)), .val (.int (0 : Int32)), .val (.int (1 : Int32)), .val (.int (2 : Int32)), .val (.int (2 : Int32)), .val (.int (4 : Int32)), .unset, .unset, .unset, .unset, .unset, .unset]) rfl ?_
  refine g_iconst C (z := (2 : Int32)) at_132 (pc' := 133) rfl rfl ?_
  refine g_iload C at_133 (pc' := 135) rfl rfl ?_
  refine g_iadd C at_135 (pc' := 136) rfl ?_
  show Go w l _ n0 _ h0 0 0 136 #[.val (.int p0), .val (.int p1), .val (.int p2), .val (.int p3), .val (.int (2 : Int32)), .val (.int (0 : Int32)), .val (.int (0 : Int32)), .val (.int (1 : Int32)), .val (.int (2 : Int32)), .val (.int (2 : Int32)), .val (.int (4 : Int32)), .unset, .unset, .unset, .unset, .unset, .unset] [(.int (6 : Int32))]
  refine g_iload C at_136 (pc' := 138) rfl rfl ?_
  refine g_if_eq C at_138 (by decide) (pc' := 145) (by decide) (pcN := 141) rfl (fun q => absurd q (by decide)) (fun _ => ?_)
  refine g_iconst C (z := (1 : Int32)) at_141 (pc' := 142) rfl rfl ?_
  refine g_goto C at_142 (by decide) (pc' := 146) (by decide) ?_
  refine g_iadd C at_146 (pc' := 147) rfl ?_
  show Go w l _ n0 _ h0 0 0 147 #[.val (.int p0), .val (.int p1), .val (.int p2), .val (.int p3), .val (.int (2 : Int32)), .val (.int (0 : Int32)), .val (.int (0 : Int32)), .val (.int (1 : Int32)), .val (.int (2 : Int32)), .val (.int (2 : Int32)), .val (.int (4 : Int32)), .unset, .unset, .unset, .unset, .unset, .unset] [(.int (7 : Int32))]
  refine g_istore C at_147 (pc' := 149) rfl (Ls' := #[.val (.int p0), .val (.int p1), .val (.int p2), .val (.int p3), .val (.int (2 : Int32)), .val (.int (0 : Int32)), .val (.int (0 : Int32)), .val (.int (1 : Int32)), .val (.int (2 : Int32)), .val (.int (2 : Int32)), .val (.int (4 : Int32)), .val (.int (7 : Int32)), .unset, .unset, .unset, .unset, .unset]) rfl ?_
  refine g_iload C at_149 (pc' := 151) rfl rfl ?_
  refine g_newarr C (ad := "[B") (cap := 7) (hw _ (List.mem_of_getElem? (i := 3) rfl)) at_151 (pc' := 153) rfl rfl (by decide) (by decide) (by decide) (k' := 1) (n' := 7) rfl rfl (by decide) (by decide) rfl ?_
  intro h154 b154 E154 fb154 gb154 A154
  have ne_t_SEQUENCE_b154 : t_SEQUENCE ≠ b154 := Nat.ne_of_lt (Nat.lt_of_lt_of_le E_SEQUENCE.lt fb154)
  have ne_t_NULL_b154 : t_NULL ≠ b154 := Nat.ne_of_lt (Nat.lt_of_lt_of_le E_NULL.lt fb154)
  have ne_t_OCTET_STRING_b154 : t_OCTET_STRING ≠ b154 := Nat.ne_of_lt (Nat.lt_of_lt_of_le E_OCTET_STRING.lt fb154)
  have X := X.ext E154
  have E_SEQUENCE := E_SEQUENCE.ext E154
  have F_SEQUENCE := F_SEQUENCE.ext E154
  have E_NULL := E_NULL.ext E154
  have F_NULL := F_NULL.ext E154
  have E_OCTET_STRING := E_OCTET_STRING.ext E154
  have F_OCTET_STRING := F_OCTET_STRING.ext E154
  have A154 : Arf Z h154 b154 "[B" .byte (7 : Int32) (fun _ => (.int 0)) := A154
  refine g_astore C at_153 (pc' := 155) rfl rfl (Ls' := #[.val (.int p0), .val (.int p1), .val (.int p2), .val (.int p3), .val (.int (2 : Int32)), .val (.int (0 : Int32)), .val (.int (0 : Int32)), .val (.int (1 : Int32)), .val (.int (2 : Int32)), .val (.int (2 : Int32)), .val (.int (4 : Int32)), .val (.int (7 : Int32)), .val (.ref b154), .unset, .unset, .unset, .unset]) rfl ?_
  refine g_aload C at_155 (pc' := 157) rfl rfl rfl ?_
  refine g_iconst C (z := (0 : Int32)) at_157 (pc' := 158) rfl rfl ?_
  refine g_bipush C (z := (48 : Int32)) at_158 (pc' := 160) rfl rfl ?_
  refine g_bastore C A154 (by decide) (by decide) at_160 (pc' := 161) rfl gb154 (fun h155 W156 A154' => ?_)
  have X := X.wr W156 gb154
  have E_SEQUENCE := E_SEQUENCE.wr W156
  have F_SEQUENCE := F_SEQUENCE.other W156 (Or.inl ne_t_SEQUENCE_b154)
  have E_NULL := E_NULL.wr W156
  have F_NULL := F_NULL.other W156 (Or.inl ne_t_NULL_b154)
  have E_OCTET_STRING := E_OCTET_STRING.wr W156
  have F_OCTET_STRING := F_OCTET_STRING.other W156 (Or.inl ne_t_OCTET_STRING_b154)
  have A154 : Arf Z h155 b154 "[B" .byte (7 : Int32) (upd (fun _ => (.int 0)) 0 (.int (48 : Int32))) := A154'
  refine g_aload C at_161 (pc' := 163) rfl rfl rfl ?_
  refine g_iconst C (z := (1 : Int32)) at_163 (pc' := 164) rfl rfl ?_
  refine g_iload C at_164 (pc' := 166) rfl rfl ?_
  refine g_i2b C at_166 (pc' := 167) rfl ?_
  show Go w l _ n0 _ h155 1 7 167 #[.val (.int p0), .val (.int p1), .val (.int p2), .val (.int p3), .val (.int (2 : Int32)), .val (.int (0 : Int32)), .val (.int (0 : Int32)), .val (.int (1 : Int32)), .val (.int (2 : Int32)), .val (.int (2 : Int32)), .val (.int (4 : Int32)), .val (.int (7 : Int32)), .val (.ref b154), .unset, .unset, .unset, .unset] [(.int (4 : Int32)), (.int (1 : Int32)), (.ref b154)]
  refine g_bastore C A154 (by decide) (by decide) at_167 (pc' := 168) rfl gb154 (fun h157 W158 A154' => ?_)
  have X := X.wr W158 gb154
  have E_SEQUENCE := E_SEQUENCE.wr W158
  have F_SEQUENCE := F_SEQUENCE.other W158 (Or.inl ne_t_SEQUENCE_b154)
  have E_NULL := E_NULL.wr W158
  have F_NULL := F_NULL.other W158 (Or.inl ne_t_NULL_b154)
  have E_OCTET_STRING := E_OCTET_STRING.wr W158
  have F_OCTET_STRING := F_OCTET_STRING.other W158 (Or.inl ne_t_OCTET_STRING_b154)
  have A154 : Arf Z h157 b154 "[B" .byte (7 : Int32) (upd (upd (fun _ => (.int 0)) 0 (.int (48 : Int32))) 1 (.int (4 : Int32))) := A154'
  refine g_iconst C (z := (2 : Int32)) at_168 (pc' := 169) rfl rfl ?_
  refine g_istore C at_169 (pc' := 171) rfl (Ls' := #[.val (.int p0), .val (.int p1), .val (.int p2), .val (.int p3), .val (.int (2 : Int32)), .val (.int (0 : Int32)), .val (.int (0 : Int32)), .val (.int (1 : Int32)), .val (.int (2 : Int32)), .val (.int (2 : Int32)), .val (.int (4 : Int32)), .val (.int (7 : Int32)), .val (.ref b154), .val (.int (2 : Int32)), .unset, .unset, .unset]) rfl ?_
  refine g_iload C at_171 (pc' := 173) rfl rfl ?_
  refine g_if_le C at_173 (by decide) (pc' := 189) (by decide) (pcN := 176) rfl (fun q => absurd q (by decide)) (fun _ => ?_)
  refine g_aload C at_176 (pc' := 178) rfl rfl rfl ?_
  refine g_iload C at_178 (pc' := 180) rfl rfl ?_
  refine g_iload C at_180 (pc' := 182) rfl rfl ?_
  refine g_iloadN C at_182 (pc' := 183) rfl rfl ?_
  refine g_i2b C at_183 (pc' := 184) rfl ?_
  refine g_static (rm := R_m_put0) C (y := (⟨"com/example/sigillum/sigillum/codec/DerReaderHasMorePinLaw", "put", "([BIZB)I"⟩ : MethodName)) (hw _ (List.mem_of_getElem? (i := 54) rfl)) (hw _ (List.mem_of_getElem? (i := 55) rfl)) (hw _ (List.mem_of_getElem? (i := 56) rfl)) (hw _ (List.mem_of_getElem? (i := 57) rfl)) (by decide) at_184 (pc' := 187) rfl (argsL := [(.ref b154), (.int (2 : Int32)), (.int (0 : Int32)), (.int (p1.toInt8.toInt32))]) (rest := []) (lenOf pd_12 rfl) rfl (W := 0) (Nat.le_of_eq rfl) rfl (fun hn9 => Met.back (rm := R_m_put0) (m_put0 hw b154 (2 : Int32) (p1.toInt8.toInt32) (7 : Int32) (upd (upd (fun _ => (.int 0)) 0 (.int (48 : Int32))) 1 (.int (4 : Int32))) A154 gb154 (by decide) (by decide) (by decide) (by decide)) hn9 C.hZ (hw _ (List.mem_of_getElem? (i := 57) rfl)) (hw _ (List.mem_of_getElem? (i := 56) rfl)) (by decide) (by decide)) (k' := 1) (n' := 7) rfl rfl (by decide) (by decide) ?_
  rintro _ h159 ⟨rfl, Kp, Ap⟩
  have X := X.keep Kp (allS gb154 all0)
  have E_SEQUENCE := E_SEQUENCE.keep Kp
  have F_SEQUENCE := F_SEQUENCE.keep Kp (ninS ne_t_SEQUENCE_b154 nin0)
  have E_NULL := E_NULL.keep Kp
  have F_NULL := F_NULL.keep Kp (ninS ne_t_NULL_b154 nin0)
  have E_OCTET_STRING := E_OCTET_STRING.keep Kp
  have F_OCTET_STRING := F_OCTET_STRING.keep Kp (ninS ne_t_OCTET_STRING_b154 nin0)
  have A154 : Arf Z h159 b154 "[B" .byte (7 : Int32) (upd (upd (upd (upd (fun _ => (.int 0)) 0 (.int (48 : Int32))) 1 (.int (4 : Int32))) 2 (.int (5 : Int32))) 3 (.int (0 : Int32))) := Ap
  show Go w l _ n0 _ h159 1 7 187 #[.val (.int p0), .val (.int p1), .val (.int p2), .val (.int p3), .val (.int (2 : Int32)), .val (.int (0 : Int32)), .val (.int (0 : Int32)), .val (.int (1 : Int32)), .val (.int (2 : Int32)), .val (.int (2 : Int32)), .val (.int (4 : Int32)), .val (.int (7 : Int32)), .val (.ref b154), .val (.int (2 : Int32)), .unset, .unset, .unset] [(.int (4 : Int32))]
  refine g_istore C at_187 (pc' := 189) rfl (Ls' := #[.val (.int p0), .val (.int p1), .val (.int p2), .val (.int p3), .val (.int (2 : Int32)), .val (.int (0 : Int32)), .val (.int (0 : Int32)), .val (.int (1 : Int32)), .val (.int (2 : Int32)), .val (.int (2 : Int32)), .val (.int (4 : Int32)), .val (.int (7 : Int32)), .val (.ref b154), .val (.int (4 : Int32)), .unset, .unset, .unset]) rfl ?_
  refine g_iload C at_189 (pc' := 191) rfl rfl ?_
  refine g_iconst C (z := (1 : Int32)) at_191 (pc' := 192) rfl rfl ?_
  refine g_icmp_le C at_192 (by decide) (pc' := 208) (by decide) (pcN := 195) rfl (fun q => absurd q (by decide)) (fun _ => ?_)
  refine g_aload C at_195 (pc' := 197) rfl rfl rfl ?_
  refine g_iload C at_197 (pc' := 199) rfl rfl ?_
  refine g_iload C at_199 (pc' := 201) rfl rfl ?_
  refine g_iloadN C at_201 (pc' := 202) rfl rfl ?_
  refine g_i2b C at_202 (pc' := 203) rfl ?_
  refine g_static (rm := R_m_put0) C (y := (⟨"com/example/sigillum/sigillum/codec/DerReaderHasMorePinLaw", "put", "([BIZB)I"⟩ : MethodName)) (hw _ (List.mem_of_getElem? (i := 54) rfl)) (hw _ (List.mem_of_getElem? (i := 55) rfl)) (hw _ (List.mem_of_getElem? (i := 56) rfl)) (hw _ (List.mem_of_getElem? (i := 57) rfl)) (by decide) at_203 (pc' := 206) rfl (argsL := [(.ref b154), (.int (4 : Int32)), (.int (0 : Int32)), (.int (p2.toInt8.toInt32))]) (rest := []) (lenOf pd_12 rfl) rfl (W := 0) (Nat.le_of_eq rfl) rfl (fun hn9 => Met.back (rm := R_m_put0) (m_put0 hw b154 (4 : Int32) (p2.toInt8.toInt32) (7 : Int32) (upd (upd (upd (upd (fun _ => (.int 0)) 0 (.int (48 : Int32))) 1 (.int (4 : Int32))) 2 (.int (5 : Int32))) 3 (.int (0 : Int32))) A154 gb154 (by decide) (by decide) (by decide) (by decide)) hn9 C.hZ (hw _ (List.mem_of_getElem? (i := 57) rfl)) (hw _ (List.mem_of_getElem? (i := 56) rfl)) (by decide) (by decide)) (k' := 1) (n' := 7) rfl rfl (by decide) (by decide) ?_
  rintro _ h160 ⟨rfl, Kp, Ap⟩
  have X := X.keep Kp (allS gb154 all0)
  have E_SEQUENCE := E_SEQUENCE.keep Kp
  have F_SEQUENCE := F_SEQUENCE.keep Kp (ninS ne_t_SEQUENCE_b154 nin0)
  have E_NULL := E_NULL.keep Kp
  have F_NULL := F_NULL.keep Kp (ninS ne_t_NULL_b154 nin0)
  have E_OCTET_STRING := E_OCTET_STRING.keep Kp
  have F_OCTET_STRING := F_OCTET_STRING.keep Kp (ninS ne_t_OCTET_STRING_b154 nin0)
  have A154 : Arf Z h160 b154 "[B" .byte (7 : Int32) (upd (upd (upd (upd (upd (upd (fun _ => (.int 0)) 0 (.int (48 : Int32))) 1 (.int (4 : Int32))) 2 (.int (5 : Int32))) 3 (.int (0 : Int32))) 4 (.int (5 : Int32))) 5 (.int (0 : Int32))) := Ap
  show Go w l _ n0 _ h160 1 7 206 #[.val (.int p0), .val (.int p1), .val (.int p2), .val (.int p3), .val (.int (2 : Int32)), .val (.int (0 : Int32)), .val (.int (0 : Int32)), .val (.int (1 : Int32)), .val (.int (2 : Int32)), .val (.int (2 : Int32)), .val (.int (4 : Int32)), .val (.int (7 : Int32)), .val (.ref b154), .val (.int (4 : Int32)), .unset, .unset, .unset] [(.int (6 : Int32))]
  refine g_istore C at_206 (pc' := 208) rfl (Ls' := #[.val (.int p0), .val (.int p1), .val (.int p2), .val (.int p3), .val (.int (2 : Int32)), .val (.int (0 : Int32)), .val (.int (0 : Int32)), .val (.int (1 : Int32)), .val (.int (2 : Int32)), .val (.int (2 : Int32)), .val (.int (4 : Int32)), .val (.int (7 : Int32)), .val (.ref b154), .val (.int (6 : Int32)), .unset, .unset, .unset]) rfl ?_
  refine g_iload C at_208 (pc' := 210) rfl rfl ?_
  refine g_if_eq C at_210 (by decide) (pc' := 220) (by decide) (pcN := 213) rfl (fun q => absurd q (by decide)) (fun _ => ?_)
  refine g_aload C at_213 (pc' := 215) rfl rfl rfl ?_
  refine g_iload C at_215 (pc' := 217) rfl rfl ?_
  refine g_iloadN C at_217 (pc' := 218) rfl rfl ?_
  refine g_i2b C at_218 (pc' := 219) rfl ?_
  refine g_bastore C A154 (by decide) (by decide) at_219 (pc' := 220) rfl gb154 (fun h161 W162 A154' => ?_)
  have X := X.wr W162 gb154
  have E_SEQUENCE := E_SEQUENCE.wr W162
  have F_SEQUENCE := F_SEQUENCE.other W162 (Or.inl ne_t_SEQUENCE_b154)
  have E_NULL := E_NULL.wr W162
  have F_NULL := F_NULL.other W162 (Or.inl ne_t_NULL_b154)
  have E_OCTET_STRING := E_OCTET_STRING.wr W162
  have F_OCTET_STRING := F_OCTET_STRING.other W162 (Or.inl ne_t_OCTET_STRING_b154)
  have A154 : Arf Z h161 b154 "[B" .byte (7 : Int32) (upd (upd (upd (upd (upd (upd (upd (fun _ => (.int 0)) 0 (.int (48 : Int32))) 1 (.int (4 : Int32))) 2 (.int (5 : Int32))) 3 (.int (0 : Int32))) 4 (.int (5 : Int32))) 5 (.int (0 : Int32))) 6 (.int (nar .byte (p3.toInt8.toInt32)))) := A154'
  refine g_new C (hw _ (List.mem_of_getElem? (i := 0) rfl)) (hw _ (List.mem_of_getElem? (i := 1) rfl)) (hw _ (List.mem_of_getElem? (i := 2) rfl)) at_220 (pc' := 223) rfl (k' := 2) (n' := 10) rfl rfl (by decide) (by decide) ?_
  intro h163 b163 E163 fb163 gb163 A163 D163
  have ne_t_SEQUENCE_b163 : t_SEQUENCE ≠ b163 := Nat.ne_of_lt (Nat.lt_of_lt_of_le E_SEQUENCE.lt fb163)
  have ne_t_NULL_b163 : t_NULL ≠ b163 := Nat.ne_of_lt (Nat.lt_of_lt_of_le E_NULL.lt fb163)
  have ne_t_OCTET_STRING_b163 : t_OCTET_STRING ≠ b163 := Nat.ne_of_lt (Nat.lt_of_lt_of_le E_OCTET_STRING.lt fb163)
  have ne_b154_b163 : b154 ≠ b163 := Nat.ne_of_lt (Nat.lt_of_lt_of_le A154.lt fb163)
  have X := X.ext E163
  have E_SEQUENCE := E_SEQUENCE.ext E163
  have F_SEQUENCE := F_SEQUENCE.ext E163
  have E_NULL := E_NULL.ext E163
  have F_NULL := F_NULL.ext E163
  have E_OCTET_STRING := E_OCTET_STRING.ext E163
  have F_OCTET_STRING := F_OCTET_STRING.ext E163
  have A154 := A154.ext E163
  have F163_der : Fld Z h163 b163 "com/example/sigillum/sigillum/codec/DerReader" "der" "[B" .null := D163 (Or.inr (hw _ (List.mem_of_getElem? (i := 23) rfl))) (ty := (.array .byte)) (by decide)
  have F163_position : Fld Z h163 b163 "com/example/sigillum/sigillum/codec/DerReader" "position" "I" (.int (0 : Int32)) := D163 (Or.inl (hw _ (List.mem_of_getElem? (i := 25) rfl))) (ty := .int) (by decide)
  have F163_end : Fld Z h163 b163 "com/example/sigillum/sigillum/codec/DerReader" "end" "I" (.int (0 : Int32)) := D163 (Or.inr (hw _ (List.mem_of_getElem? (i := 27) rfl))) (ty := .int) (by decide)
  refine g_dup C at_223 (pc' := 224) rfl rfl ?_
  refine g_aload C at_224 (pc' := 226) rfl rfl rfl ?_
  refine g_special (rm := R_m_init1) (a := b163) C (y := (⟨"com/example/sigillum/sigillum/codec/DerReader", "<init>", "([B)V"⟩ : MethodName)) rfl (hw _ (List.mem_of_getElem? (i := 4) rfl)) (hw _ (List.mem_of_getElem? (i := 5) rfl)) (hw _ (List.mem_of_getElem? (i := 6) rfl)) (by decide) at_226 (pc' := 229) rfl (argsL := [(.ref b154)]) (rest := [(.ref b163)]) (lenOf pd_10 rfl) rfl (W := 1) (Nat.le_of_eq rfl) rfl (fun hn9 => Met.back (rm := R_m_init1) (m_init1 hw b163 b154 (7 : Int32) (upd (upd (upd (upd (upd (upd (upd (fun _ => (.int 0)) 0 (.int (48 : Int32))) 1 (.int (4 : Int32))) 2 (.int (5 : Int32))) 3 (.int (0 : Int32))) 4 (.int (5 : Int32))) 5 (.int (0 : Int32))) 6 (.int (nar .byte (p3.toInt8.toInt32)))) ⟨A163, F163_der, F163_position, F163_end⟩ A154 (by decide) gb163) hn9 C.hZ (hw _ (List.mem_of_getElem? (i := 6) rfl)) (hw _ (List.mem_of_getElem? (i := 2) rfl)) (by decide) (by decide)) (k' := 3) (n' := 19) rfl rfl (by decide) (by decide) ?_
  rintro _ h164 ⟨rfl, Ki, t_b163, ft_b163, gt_b163, ⟨E_b163, F1_b163, F2_b163, F3_b163⟩, At_b163⟩
  have ne_t_SEQUENCE_t_b163 : t_SEQUENCE ≠ t_b163 := Nat.ne_of_lt (Nat.lt_of_lt_of_le E_SEQUENCE.lt ft_b163)
  have ne_t_NULL_t_b163 : t_NULL ≠ t_b163 := Nat.ne_of_lt (Nat.lt_of_lt_of_le E_NULL.lt ft_b163)
  have ne_t_OCTET_STRING_t_b163 : t_OCTET_STRING ≠ t_b163 := Nat.ne_of_lt (Nat.lt_of_lt_of_le E_OCTET_STRING.lt ft_b163)
  have ne_b154_t_b163 : b154 ≠ t_b163 := Nat.ne_of_lt (Nat.lt_of_lt_of_le A154.lt ft_b163)
  have ne_b163_t_b163 : b163 ≠ t_b163 := Nat.ne_of_lt (Nat.lt_of_lt_of_le A163.lt ft_b163)
  have X := X.keep Ki (allS gb163 all0)
  have E_SEQUENCE := E_SEQUENCE.keep Ki
  have F_SEQUENCE := F_SEQUENCE.keep Ki (ninS ne_t_SEQUENCE_b163 nin0)
  have E_NULL := E_NULL.keep Ki
  have F_NULL := F_NULL.keep Ki (ninS ne_t_NULL_b163 nin0)
  have E_OCTET_STRING := E_OCTET_STRING.keep Ki
  have F_OCTET_STRING := F_OCTET_STRING.keep Ki (ninS ne_t_OCTET_STRING_b163 nin0)
  have A154 := A154.keep Ki (ninS ne_b154_b163 nin0)
  have A163 := A163.keep Ki
  show Go w l _ n0 _ h164 3 19 229 #[.val (.int p0), .val (.int p1), .val (.int p2), .val (.int p3), .val (.int (2 : Int32)), .val (.int (0 : Int32)), .val (.int (0 : Int32)), .val (.int (1 : Int32)), .val (.int (2 : Int32)), .val (.int (2 : Int32)), .val (.int (4 : Int32)), .val (.int (7 : Int32)), .val (.ref b154), .val (.int (6 : Int32)), .unset, .unset, .unset] [(.ref b163)]
  refine g_astore C at_229 (pc' := 231) rfl rfl (Ls' := #[.val (.int p0), .val (.int p1), .val (.int p2), .val (.int p3), .val (.int (2 : Int32)), .val (.int (0 : Int32)), .val (.int (0 : Int32)), .val (.int (1 : Int32)), .val (.int (2 : Int32)), .val (.int (2 : Int32)), .val (.int (4 : Int32)), .val (.int (7 : Int32)), .val (.ref b154), .val (.int (6 : Int32)), .val (.ref b163), .unset, .unset]) rfl ?_
  refine g_aload C at_231 (pc' := 233) rfl rfl rfl ?_
  refine g_virtual (rm := R_m_hasMore) (a := b163) C (y := (⟨"com/example/sigillum/sigillum/codec/DerReader", "hasMore", "()Z"⟩ : MethodName)) (y' := (⟨"com/example/sigillum/sigillum/codec/DerReader", "hasMore", "()Z"⟩ : MethodName)) (hw _ (List.mem_of_getElem? (i := 28) rfl)) (hw _ (List.mem_of_getElem? (i := 29) rfl)) (g_nf C (hw _ (List.mem_of_getElem? (i := 31) rfl))) (hw _ (List.mem_of_getElem? (i := 31) rfl)) (hw _ (List.mem_of_getElem? (i := 30) rfl)) (by decide) E_b163 at_233 (pc' := 236) rfl (argsL := []) (rest := []) (lenOf pd_1 rfl) rfl (W := 0) (Nat.le_of_eq rfl) rfl (fun hn9 => Met.back (rm := R_m_hasMore) (m_hasMore hw b163 (0 : Int32) (7 : Int32) F2_b163 F3_b163) hn9 C.hZ (hw _ (List.mem_of_getElem? (i := 32) rfl)) (hw _ (List.mem_of_getElem? (i := 2) rfl)) (by decide) (by decide)) (k' := 3) (n' := 19) rfl rfl (by decide) (by decide) ?_
  rintro _ _ ⟨rfl, rfl⟩
  show Go w l _ n0 _ h164 3 19 236 #[.val (.int p0), .val (.int p1), .val (.int p2), .val (.int p3), .val (.int (2 : Int32)), .val (.int (0 : Int32)), .val (.int (0 : Int32)), .val (.int (1 : Int32)), .val (.int (2 : Int32)), .val (.int (2 : Int32)), .val (.int (4 : Int32)), .val (.int (7 : Int32)), .val (.ref b154), .val (.int (6 : Int32)), .val (.ref b163), .unset, .unset] [(.int (1 : Int32))]
  refine g_istore C at_236 (pc' := 238) rfl (Ls' := #[.val (.int p0), .val (.int p1), .val (.int p2), .val (.int p3), .val (.int (2 : Int32)), .val (.int (0 : Int32)), .val (.int (0 : Int32)), .val (.int (1 : Int32)), .val (.int (2 : Int32)), .val (.int (2 : Int32)), .val (.int (4 : Int32)), .val (.int (7 : Int32)), .val (.ref b154), .val (.int (6 : Int32)), .val (.ref b163), .val (.int (1 : Int32)), .unset]) rfl ?_
  refine g_aload C at_238 (pc' := 240) rfl rfl rfl ?_
  refine g_virtual (rm := R_m_seq) (a := b163) C (y := (⟨"com/example/sigillum/sigillum/codec/DerReader", "sequence", "()Lcom/example/sigillum/sigillum/codec/DerReader;"⟩ : MethodName)) (y' := (⟨"com/example/sigillum/sigillum/codec/DerReader", "sequence", "()Lcom/example/sigillum/sigillum/codec/DerReader;"⟩ : MethodName)) (hw _ (List.mem_of_getElem? (i := 33) rfl)) (hw _ (List.mem_of_getElem? (i := 34) rfl)) (g_nf C (hw _ (List.mem_of_getElem? (i := 36) rfl))) (hw _ (List.mem_of_getElem? (i := 36) rfl)) (hw _ (List.mem_of_getElem? (i := 35) rfl)) (by decide) E_b163 at_240 (pc' := 243) rfl (argsL := []) (rest := []) (lenOf pd_11 rfl) rfl (W := 0) (Nat.le_of_eq rfl) rfl (fun hn9 => Met.back (rm := R_m_seq) (m_seq hw b163 t_b163 t_SEQUENCE (0 : Int32) (7 : Int32) (7 : Int32) (48 : Int32) (4 : Int32) (4 : Int32) (48 : Int32) (2 : Int32) (upd (upd (upd (upd (upd (upd (upd (fun _ => (.int 0)) 0 (.int (48 : Int32))) 1 (.int (4 : Int32))) 2 (.int (5 : Int32))) 3 (.int (0 : Int32))) 4 (.int (5 : Int32))) 5 (.int (0 : Int32))) 6 (.int (nar .byte (p3.toInt8.toInt32)))) (6 : Int32) ⟨E_b163, F1_b163, F2_b163, F3_b163⟩ At_b163 E_SEQUENCE F_SEQUENCE gb163 (Ne.symm ne_b163_t_b163) (by decide) (by decide) (by decide) rfl (by decide) (by decide) (by decide) (by decide) rfl (by decide) (by decide) (by decide) (by decide) (by decide) (S_SEQUENCE.ext X.2)) hn9 C.hZ (hw _ (List.mem_of_getElem? (i := 37) rfl)) (hw _ (List.mem_of_getElem? (i := 2) rfl)) (by decide) (by decide)) (k' := 4) (n' := 22) rfl rfl (by decide) (by decide) ?_
  rintro _ h165 ⟨sq, rfl, fsq, gsq, Ks, ⟨E_b163, F1_b163, F2_b163, F3_b163⟩, ⟨E_sq, F1_sq, F2_sq, F3_sq⟩⟩
  have ne_t_SEQUENCE_sq : t_SEQUENCE ≠ sq := Nat.ne_of_lt (Nat.lt_of_lt_of_le E_SEQUENCE.lt fsq)
  have ne_t_NULL_sq : t_NULL ≠ sq := Nat.ne_of_lt (Nat.lt_of_lt_of_le E_NULL.lt fsq)
  have ne_t_OCTET_STRING_sq : t_OCTET_STRING ≠ sq := Nat.ne_of_lt (Nat.lt_of_lt_of_le E_OCTET_STRING.lt fsq)
  have ne_b154_sq : b154 ≠ sq := Nat.ne_of_lt (Nat.lt_of_lt_of_le A154.lt fsq)
  have ne_t_b163_sq : t_b163 ≠ sq := Nat.ne_of_lt (Nat.lt_of_lt_of_le At_b163.lt fsq)
  have X := X.keep Ks (allS gb163 all0)
  have E_SEQUENCE := E_SEQUENCE.keep Ks
  have F_SEQUENCE := F_SEQUENCE.keep Ks (ninS ne_t_SEQUENCE_b163 nin0)
  have E_NULL := E_NULL.keep Ks
  have F_NULL := F_NULL.keep Ks (ninS ne_t_NULL_b163 nin0)
  have E_OCTET_STRING := E_OCTET_STRING.keep Ks
  have F_OCTET_STRING := F_OCTET_STRING.keep Ks (ninS ne_t_OCTET_STRING_b163 nin0)
  have A154 := A154.keep Ks (ninS ne_b154_b163 nin0)
  have At_b163 := At_b163.keep Ks (ninS (Ne.symm ne_b163_t_b163) nin0)
  show Go w l _ n0 _ h165 4 22 243 #[.val (.int p0), .val (.int p1), .val (.int p2), .val (.int p3), .val (.int (2 : Int32)), .val (.int (0 : Int32)), .val (.int (0 : Int32)), .val (.int (1 : Int32)), .val (.int (2 : Int32)), .val (.int (2 : Int32)), .val (.int (4 : Int32)), .val (.int (7 : Int32)), .val (.ref b154), .val (.int (6 : Int32)), .val (.ref b163), .val (.int (1 : Int32)), .unset] [(.ref sq)]
  refine g_astore C at_243 (pc' := 245) rfl rfl (Ls' := #[.val (.int p0), .val (.int p1), .val (.int p2), .val (.int p3), .val (.int (2 : Int32)), .val (.int (0 : Int32)), .val (.int (0 : Int32)), .val (.int (1 : Int32)), .val (.int (2 : Int32)), .val (.int (2 : Int32)), .val (.int (4 : Int32)), .val (.int (7 : Int32)), .val (.ref b154), .val (.int (6 : Int32)), .val (.ref b163), .val (.int (1 : Int32)), .val (.ref sq)]) rfl ?_
  refine g_iload C at_245 (pc' := 247) rfl rfl ?_
  refine g_if_eq C at_247 (by decide) (pc' := 264) (by decide) (pcN := 250) rfl (fun q => absurd q (by decide)) (fun _ => ?_)
  refine g_aload C at_250 (pc' := 252) rfl rfl rfl ?_
  refine g_virtual (rm := R_m_hasMore) (a := b163) C (y := (⟨"com/example/sigillum/sigillum/codec/DerReader", "hasMore", "()Z"⟩ : MethodName)) (y' := (⟨"com/example/sigillum/sigillum/codec/DerReader", "hasMore", "()Z"⟩ : MethodName)) (hw _ (List.mem_of_getElem? (i := 28) rfl)) (hw _ (List.mem_of_getElem? (i := 29) rfl)) (g_nf C (hw _ (List.mem_of_getElem? (i := 31) rfl))) (hw _ (List.mem_of_getElem? (i := 31) rfl)) (hw _ (List.mem_of_getElem? (i := 30) rfl)) (by decide) E_b163 at_252 (pc' := 255) rfl (argsL := []) (rest := []) (lenOf pd_1 rfl) rfl (W := 0) (Nat.le_of_eq rfl) rfl (fun hn9 => Met.back (rm := R_m_hasMore) (m_hasMore hw b163 (6 : Int32) (7 : Int32) F2_b163 F3_b163) hn9 C.hZ (hw _ (List.mem_of_getElem? (i := 32) rfl)) (hw _ (List.mem_of_getElem? (i := 2) rfl)) (by decide) (by decide)) (k' := 4) (n' := 22) rfl rfl (by decide) (by decide) ?_
  rintro _ _ ⟨rfl, rfl⟩
  show Go w l _ n0 _ h165 4 22 255 #[.val (.int p0), .val (.int p1), .val (.int p2), .val (.int p3), .val (.int (2 : Int32)), .val (.int (0 : Int32)), .val (.int (0 : Int32)), .val (.int (1 : Int32)), .val (.int (2 : Int32)), .val (.int (2 : Int32)), .val (.int (4 : Int32)), .val (.int (7 : Int32)), .val (.ref b154), .val (.int (6 : Int32)), .val (.ref b163), .val (.int (1 : Int32)), .val (.ref sq)] [(.int (1 : Int32))]
  refine g_iload C at_255 (pc' := 257) rfl rfl ?_
  refine g_icmp_ne C at_257 (by decide) (pc' := 264) (by decide) (pcN := 260) rfl (fun q => absurd rfl q) (fun _ => ?_)
  refine g_iconst C (z := (1 : Int32)) at_260 (pc' := 261) rfl rfl ?_
  refine g_goto C at_261 (by decide) (pc' := 265) (by decide) ?_
  refine g_istore C at_265 (pc' := 267) rfl (Ls' := #[.val (.int p0), .val (.int p1), .val (.int p2), .val (.int p3), .val (.int (2 : Int32)), .val (.int (0 : Int32)), .val (.int (0 : Int32)), .val (.int (1 : Int32)), .val (.int (2 : Int32)), .val (.int (2 : Int32)), .val (.int (4 : Int32)), .val (.int (7 : Int32)), .val (.ref b154), .val (.int (6 : Int32)), .val (.ref b163), .val (.int (1 : Int32)), .val (.ref sq)]) rfl ?_
  refine g_iload C at_267 (pc' := 269) rfl rfl ?_
  refine g_if_eq C at_269 (by decide) (pc' := 294) (by decide) (pcN := 272) rfl (fun q => absurd q (by decide)) (fun _ => ?_)
  refine g_aload C at_272 (pc' := 274) rfl rfl rfl ?_
  refine g_virtual (rm := R_m_hasMore) (a := sq) C (y := (⟨"com/example/sigillum/sigillum/codec/DerReader", "hasMore", "()Z"⟩ : MethodName)) (y' := (⟨"com/example/sigillum/sigillum/codec/DerReader", "hasMore", "()Z"⟩ : MethodName)) (hw _ (List.mem_of_getElem? (i := 28) rfl)) (hw _ (List.mem_of_getElem? (i := 29) rfl)) (g_nf C (hw _ (List.mem_of_getElem? (i := 31) rfl))) (hw _ (List.mem_of_getElem? (i := 31) rfl)) (hw _ (List.mem_of_getElem? (i := 30) rfl)) (by decide) E_sq at_274 (pc' := 277) rfl (argsL := []) (rest := []) (lenOf pd_1 rfl) rfl (W := 0) (Nat.le_of_eq rfl) rfl (fun hn9 => Met.back (rm := R_m_hasMore) (m_hasMore hw sq (2 : Int32) (6 : Int32) F2_sq F3_sq) hn9 C.hZ (hw _ (List.mem_of_getElem? (i := 32) rfl)) (hw _ (List.mem_of_getElem? (i := 2) rfl)) (by decide) (by decide)) (k' := 4) (n' := 22) rfl rfl (by decide) (by decide) ?_
  rintro _ _ ⟨rfl, rfl⟩
  show Go w l _ n0 _ h165 4 22 277 #[.val (.int p0), .val (.int p1), .val (.int p2), .val (.int p3), .val (.int (2 : Int32)), .val (.int (0 : Int32)), .val (.int (0 : Int32)), .val (.int (1 : Int32)), .val (.int (2 : Int32)), .val (.int (2 : Int32)), .val (.int (4 : Int32)), .val (.int (7 : Int32)), .val (.ref b154), .val (.int (6 : Int32)), .val (.ref b163), .val (.int (1 : Int32)), .val (.ref sq)] [(.int (1 : Int32))]
  refine g_iload C at_277 (pc' := 279) rfl rfl ?_
  refine g_if_le C at_279 (by decide) (pc' := 286) (by decide) (pcN := 282) rfl (fun q => absurd q (by decide)) (fun _ => ?_)
  refine g_iconst C (z := (1 : Int32)) at_282 (pc' := 283) rfl rfl ?_
  refine g_goto C at_283 (by decide) (pc' := 287) (by decide) ?_
  refine g_icmp_ne C at_287 (by decide) (pc' := 294) (by decide) (pcN := 290) rfl (fun q => absurd rfl q) (fun _ => ?_)
  refine g_iconst C (z := (1 : Int32)) at_290 (pc' := 291) rfl rfl ?_
  refine g_goto C at_291 (by decide) (pc' := 295) (by decide) ?_
  refine g_istore C at_295 (pc' := 297) rfl (Ls' := #[.val (.int p0), .val (.int p1), .val (.int p2), .val (.int p3), .val (.int (2 : Int32)), .val (.int (0 : Int32)), .val (.int (0 : Int32)), .val (.int (1 : Int32)), .val (.int (2 : Int32)), .val (.int (2 : Int32)), .val (.int (4 : Int32)), .val (.int (7 : Int32)), .val (.ref b154), .val (.int (6 : Int32)), .val (.ref b163), .val (.int (1 : Int32)), .val (.ref sq)]) rfl ?_
  refine g_iload C at_297 (pc' := 299) rfl rfl ?_
  refine g_if_le C at_299 (by decide) (pc' := 340) (by decide) (pcN := 302) rfl (fun q => absurd q (by decide)) (fun _ => ?_)
  refine g_aload C at_302 (pc' := 304) rfl rfl rfl ?_
  refine g_iload C at_304 (pc' := 306) rfl rfl ?_
  refine g_static (rm := R_m_read0) C (y := (⟨"com/example/sigillum/sigillum/codec/DerReaderHasMorePinLaw", "read", "(Lcom/example/sigillum/sigillum/codec/DerReader;Z)V"⟩ : MethodName)) (hw _ (List.mem_of_getElem? (i := 58) rfl)) (hw _ (List.mem_of_getElem? (i := 59) rfl)) (hw _ (List.mem_of_getElem? (i := 56) rfl)) (hw _ (List.mem_of_getElem? (i := 60) rfl)) (by decide) at_306 (pc' := 309) rfl (argsL := [(.ref sq), (.int (0 : Int32))]) (rest := []) (lenOf pd_13 rfl) rfl (W := 0) (Nat.le_of_eq rfl) rfl (fun hn9 => Met.back (rm := R_m_read0) (m_read0 hw sq t_b163 t_NULL (2 : Int32) (6 : Int32) (7 : Int32) (5 : Int32) (0 : Int32) (0 : Int32) (5 : Int32) (4 : Int32) (upd (upd (upd (upd (upd (upd (upd (fun _ => (.int 0)) 0 (.int (48 : Int32))) 1 (.int (4 : Int32))) 2 (.int (5 : Int32))) 3 (.int (0 : Int32))) 4 (.int (5 : Int32))) 5 (.int (0 : Int32))) 6 (.int (nar .byte (p3.toInt8.toInt32)))) ⟨E_sq, F1_sq, F2_sq, F3_sq⟩ At_b163 E_NULL F_NULL gsq ne_t_b163_sq (by decide) (by decide) (by decide) rfl (by decide) (by decide) (by decide) (by decide) rfl (by decide) (by decide) (by decide) (by decide) (4 : Int32) (0 : Int32) (by decide) (by decide) (by decide) (by decide) (by decide) (by decide) (by decide) (by decide) (by decide) (by decide) (by decide) (by decide) (S_NULL.ext X.2)) hn9 C.hZ (hw _ (List.mem_of_getElem? (i := 60) rfl)) (hw _ (List.mem_of_getElem? (i := 56) rfl)) (by decide) (by decide)) (k' := 5) (n' := 25) rfl rfl (by decide) (by decide) ?_
  rintro _ h166 ⟨rfl, Kr, ⟨E_sq, F1_sq, F2_sq, F3_sq⟩⟩
  have X := X.keep Kr (allS gsq all0)
  have E_SEQUENCE := E_SEQUENCE.keep Kr
  have F_SEQUENCE := F_SEQUENCE.keep Kr (ninS ne_t_SEQUENCE_sq nin0)
  have E_NULL := E_NULL.keep Kr
  have F_NULL := F_NULL.keep Kr (ninS ne_t_NULL_sq nin0)
  have E_OCTET_STRING := E_OCTET_STRING.keep Kr
  have F_OCTET_STRING := F_OCTET_STRING.keep Kr (ninS ne_t_OCTET_STRING_sq nin0)
  have A154 := A154.keep Kr (ninS ne_b154_sq nin0)
  have At_b163 := At_b163.keep Kr (ninS ne_t_b163_sq nin0)
  have E_b163 := E_b163.keep Kr
  show Go w l _ n0 _ h166 5 25 309 #[.val (.int p0), .val (.int p1), .val (.int p2), .val (.int p3), .val (.int (2 : Int32)), .val (.int (0 : Int32)), .val (.int (0 : Int32)), .val (.int (1 : Int32)), .val (.int (2 : Int32)), .val (.int (2 : Int32)), .val (.int (4 : Int32)), .val (.int (7 : Int32)), .val (.ref b154), .val (.int (6 : Int32)), .val (.ref b163), .val (.int (1 : Int32)), .val (.ref sq)] []
  refine g_iload C at_309 (pc' := 311) rfl rfl ?_
  refine g_if_eq C at_311 (by decide) (pc' := 337) (by decide) (pcN := 314) rfl (fun q => absurd q (by decide)) (fun _ => ?_)
  refine g_aload C at_314 (pc' := 316) rfl rfl rfl ?_
  refine g_virtual (rm := R_m_hasMore) (a := sq) C (y := (⟨"com/example/sigillum/sigillum/codec/DerReader", "hasMore", "()Z"⟩ : MethodName)) (y' := (⟨"com/example/sigillum/sigillum/codec/DerReader", "hasMore", "()Z"⟩ : MethodName)) (hw _ (List.mem_of_getElem? (i := 28) rfl)) (hw _ (List.mem_of_getElem? (i := 29) rfl)) (g_nf C (hw _ (List.mem_of_getElem? (i := 31) rfl))) (hw _ (List.mem_of_getElem? (i := 31) rfl)) (hw _ (List.mem_of_getElem? (i := 30) rfl)) (by decide) E_sq at_316 (pc' := 319) rfl (argsL := []) (rest := []) (lenOf pd_1 rfl) rfl (W := 0) (Nat.le_of_eq rfl) rfl (fun hn9 => Met.back (rm := R_m_hasMore) (m_hasMore hw sq (4 : Int32) (6 : Int32) F2_sq F3_sq) hn9 C.hZ (hw _ (List.mem_of_getElem? (i := 32) rfl)) (hw _ (List.mem_of_getElem? (i := 2) rfl)) (by decide) (by decide)) (k' := 5) (n' := 25) rfl rfl (by decide) (by decide) ?_
  rintro _ _ ⟨rfl, rfl⟩
  show Go w l _ n0 _ h166 5 25 319 #[.val (.int p0), .val (.int p1), .val (.int p2), .val (.int p3), .val (.int (2 : Int32)), .val (.int (0 : Int32)), .val (.int (0 : Int32)), .val (.int (1 : Int32)), .val (.int (2 : Int32)), .val (.int (2 : Int32)), .val (.int (4 : Int32)), .val (.int (7 : Int32)), .val (.ref b154), .val (.int (6 : Int32)), .val (.ref b163), .val (.int (1 : Int32)), .val (.ref sq)] [(.int (1 : Int32))]
  refine g_iload C at_319 (pc' := 321) rfl rfl ?_
  refine g_iconst C (z := (1 : Int32)) at_321 (pc' := 322) rfl rfl ?_
  refine g_icmp_le C at_322 (by decide) (pc' := 329) (by decide) (pcN := 325) rfl (fun q => absurd q (by decide)) (fun _ => ?_)
  refine g_iconst C (z := (1 : Int32)) at_325 (pc' := 326) rfl rfl ?_
  refine g_goto C at_326 (by decide) (pc' := 330) (by decide) ?_
  refine g_icmp_ne C at_330 (by decide) (pc' := 337) (by decide) (pcN := 333) rfl (fun q => absurd rfl q) (fun _ => ?_)
  refine g_iconst C (z := (1 : Int32)) at_333 (pc' := 334) rfl rfl ?_
  refine g_goto C at_334 (by decide) (pc' := 338) (by decide) ?_
  refine g_istore C at_338 (pc' := 340) rfl (Ls' := #[.val (.int p0), .val (.int p1), .val (.int p2), .val (.int p3), .val (.int (2 : Int32)), .val (.int (0 : Int32)), .val (.int (0 : Int32)), .val (.int (1 : Int32)), .val (.int (2 : Int32)), .val (.int (2 : Int32)), .val (.int (4 : Int32)), .val (.int (7 : Int32)), .val (.ref b154), .val (.int (6 : Int32)), .val (.ref b163), .val (.int (1 : Int32)), .val (.ref sq)]) rfl ?_
  refine g_iload C at_340 (pc' := 342) rfl rfl ?_
  refine g_iconst C (z := (1 : Int32)) at_342 (pc' := 343) rfl rfl ?_
  refine g_icmp_le C at_343 (by decide) (pc' := 373) (by decide) (pcN := 346) rfl (fun q => absurd q (by decide)) (fun _ => ?_)
  refine g_aload C at_346 (pc' := 348) rfl rfl rfl ?_
  refine g_iload C at_348 (pc' := 350) rfl rfl ?_
  refine g_static (rm := R_m_read0) C (y := (⟨"com/example/sigillum/sigillum/codec/DerReaderHasMorePinLaw", "read", "(Lcom/example/sigillum/sigillum/codec/DerReader;Z)V"⟩ : MethodName)) (hw _ (List.mem_of_getElem? (i := 58) rfl)) (hw _ (List.mem_of_getElem? (i := 59) rfl)) (hw _ (List.mem_of_getElem? (i := 56) rfl)) (hw _ (List.mem_of_getElem? (i := 60) rfl)) (by decide) at_350 (pc' := 353) rfl (argsL := [(.ref sq), (.int (0 : Int32))]) (rest := []) (lenOf pd_13 rfl) rfl (W := 0) (Nat.le_of_eq rfl) rfl (fun hn9 => Met.back (rm := R_m_read0) (m_read0 hw sq t_b163 t_NULL (4 : Int32) (6 : Int32) (7 : Int32) (5 : Int32) (0 : Int32) (0 : Int32) (5 : Int32) (6 : Int32) (upd (upd (upd (upd (upd (upd (upd (fun _ => (.int 0)) 0 (.int (48 : Int32))) 1 (.int (4 : Int32))) 2 (.int (5 : Int32))) 3 (.int (0 : Int32))) 4 (.int (5 : Int32))) 5 (.int (0 : Int32))) 6 (.int (nar .byte (p3.toInt8.toInt32)))) ⟨E_sq, F1_sq, F2_sq, F3_sq⟩ At_b163 E_NULL F_NULL gsq ne_t_b163_sq (by decide) (by decide) (by decide) rfl (by decide) (by decide) (by decide) (by decide) rfl (by decide) (by decide) (by decide) (by decide) (6 : Int32) (0 : Int32) (by decide) (by decide) (by decide) (by decide) (by decide) (by decide) (by decide) (by decide) (by decide) (by decide) (by decide) (by decide) (S_NULL.ext X.2)) hn9 C.hZ (hw _ (List.mem_of_getElem? (i := 60) rfl)) (hw _ (List.mem_of_getElem? (i := 56) rfl)) (by decide) (by decide)) (k' := 6) (n' := 28) rfl rfl (by decide) (by decide) ?_
  rintro _ h167 ⟨rfl, Kr, ⟨E_sq, F1_sq, F2_sq, F3_sq⟩⟩
  have X := X.keep Kr (allS gsq all0)
  have E_SEQUENCE := E_SEQUENCE.keep Kr
  have F_SEQUENCE := F_SEQUENCE.keep Kr (ninS ne_t_SEQUENCE_sq nin0)
  have E_NULL := E_NULL.keep Kr
  have F_NULL := F_NULL.keep Kr (ninS ne_t_NULL_sq nin0)
  have E_OCTET_STRING := E_OCTET_STRING.keep Kr
  have F_OCTET_STRING := F_OCTET_STRING.keep Kr (ninS ne_t_OCTET_STRING_sq nin0)
  have A154 := A154.keep Kr (ninS ne_b154_sq nin0)
  have At_b163 := At_b163.keep Kr (ninS ne_t_b163_sq nin0)
  have E_b163 := E_b163.keep Kr
  show Go w l _ n0 _ h167 6 28 353 #[.val (.int p0), .val (.int p1), .val (.int p2), .val (.int p3), .val (.int (2 : Int32)), .val (.int (0 : Int32)), .val (.int (0 : Int32)), .val (.int (1 : Int32)), .val (.int (2 : Int32)), .val (.int (2 : Int32)), .val (.int (4 : Int32)), .val (.int (7 : Int32)), .val (.ref b154), .val (.int (6 : Int32)), .val (.ref b163), .val (.int (1 : Int32)), .val (.ref sq)] []
  refine g_iload C at_353 (pc' := 355) rfl rfl ?_
  refine g_if_eq C at_355 (by decide) (pc' := 370) (by decide) (pcN := 358) rfl (fun q => absurd q (by decide)) (fun _ => ?_)
  refine g_aload C at_358 (pc' := 360) rfl rfl rfl ?_
  refine g_virtual (rm := R_m_hasMore) (a := sq) C (y := (⟨"com/example/sigillum/sigillum/codec/DerReader", "hasMore", "()Z"⟩ : MethodName)) (y' := (⟨"com/example/sigillum/sigillum/codec/DerReader", "hasMore", "()Z"⟩ : MethodName)) (hw _ (List.mem_of_getElem? (i := 28) rfl)) (hw _ (List.mem_of_getElem? (i := 29) rfl)) (g_nf C (hw _ (List.mem_of_getElem? (i := 31) rfl))) (hw _ (List.mem_of_getElem? (i := 31) rfl)) (hw _ (List.mem_of_getElem? (i := 30) rfl)) (by decide) E_sq at_360 (pc' := 363) rfl (argsL := []) (rest := []) (lenOf pd_1 rfl) rfl (W := 0) (Nat.le_of_eq rfl) rfl (fun hn9 => Met.back (rm := R_m_hasMore) (m_hasMore hw sq (6 : Int32) (6 : Int32) F2_sq F3_sq) hn9 C.hZ (hw _ (List.mem_of_getElem? (i := 32) rfl)) (hw _ (List.mem_of_getElem? (i := 2) rfl)) (by decide) (by decide)) (k' := 6) (n' := 28) rfl rfl (by decide) (by decide) ?_
  rintro _ _ ⟨rfl, rfl⟩
  show Go w l _ n0 _ h167 6 28 363 #[.val (.int p0), .val (.int p1), .val (.int p2), .val (.int p3), .val (.int (2 : Int32)), .val (.int (0 : Int32)), .val (.int (0 : Int32)), .val (.int (1 : Int32)), .val (.int (2 : Int32)), .val (.int (2 : Int32)), .val (.int (4 : Int32)), .val (.int (7 : Int32)), .val (.ref b154), .val (.int (6 : Int32)), .val (.ref b163), .val (.int (1 : Int32)), .val (.ref sq)] [(.int (0 : Int32))]
  refine g_if_ne C at_363 (by decide) (pc' := 370) (by decide) (pcN := 366) rfl (fun q => absurd rfl q) (fun _ => ?_)
  refine g_iconst C (z := (1 : Int32)) at_366 (pc' := 367) rfl rfl ?_
  refine g_goto C at_367 (by decide) (pc' := 371) (by decide) ?_
  refine g_istore C at_371 (pc' := 373) rfl (Ls' := #[.val (.int p0), .val (.int p1), .val (.int p2), .val (.int p3), .val (.int (2 : Int32)), .val (.int (0 : Int32)), .val (.int (0 : Int32)), .val (.int (1 : Int32)), .val (.int (2 : Int32)), .val (.int (2 : Int32)), .val (.int (4 : Int32)), .val (.int (7 : Int32)), .val (.ref b154), .val (.int (6 : Int32)), .val (.ref b163), .val (.int (1 : Int32)), .val (.ref sq)]) rfl ?_
  refine g_iload C at_373 (pc' := 375) rfl rfl ?_
  exact g_retN C (t := .boolean) rfl (by simp) at_375 rfl (by decide) (by decide)
set_option maxRecDepth 65536 in
set_option maxHeartbeats 40000000 in
theorem seg82_2010 {l : Launch} {Z : State} {a0 : Array Value} (hw : ∀ d ∈ tables_1, d.before a0 Z = true) {w : Wk} {n0 : Nat} {h0 : Heap} {Y : State → Outcome → Prop} (p0 p1 p2 p3 : Int32) (t_SEQUENCE t_NULL t_OCTET_STRING : Addr) (C : Cx w Z "com/example/sigillum/sigillum/codec/DerReaderHasMorePinLaw" code 17 (some .boolean) "law" room_1 n0 (fun v _ => v = some (.int 1)) Y) (X : Old Z n0 h0) (S_SEQUENCE : Sta Z Z.heap "com/example/sigillum/sigillum/codec/DerTag" "SEQUENCE" "Lcom/example/sigillum/sigillum/codec/DerTag;" (.ref t_SEQUENCE)) (E_SEQUENCE : Exa Z h0 t_SEQUENCE "com/example/sigillum/sigillum/codec/DerTag") (F_SEQUENCE : Fld Z h0 t_SEQUENCE "com/example/sigillum/sigillum/codec/DerTag" "identifier" "I" (.int 48)) (S_NULL : Sta Z Z.heap "com/example/sigillum/sigillum/codec/DerTag" "NULL" "Lcom/example/sigillum/sigillum/codec/DerTag;" (.ref t_NULL)) (E_NULL : Exa Z h0 t_NULL "com/example/sigillum/sigillum/codec/DerTag") (F_NULL : Fld Z h0 t_NULL "com/example/sigillum/sigillum/codec/DerTag" "identifier" "I" (.int 5)) (S_OCTET_STRING : Sta Z Z.heap "com/example/sigillum/sigillum/codec/DerTag" "OCTET_STRING" "Lcom/example/sigillum/sigillum/codec/DerTag;" (.ref t_OCTET_STRING)) (E_OCTET_STRING : Exa Z h0 t_OCTET_STRING "com/example/sigillum/sigillum/codec/DerTag") (F_OCTET_STRING : Fld Z h0 t_OCTET_STRING "com/example/sigillum/sigillum/codec/DerTag" "identifier" "I" (.int 4)) :
    Go w l room_1 n0 Y h0 0 0 82 #[.val (.int p0), .val (.int p1), .val (.int p2), .val (.int p3), .val (.int (2 : Int32)), .val (.int (0 : Int32)), .val (.int (1 : Int32)), .val (.int (0 : Int32)), .unset, .unset, .unset, .unset, .unset, .unset, .unset, .unset, .unset] [] := by
  refine g_iload C at_82 (pc' := 84) rfl rfl ?_
  refine g_if_le C at_84 (by decide) (pc' := 100) (by decide) (pcN := 87) rfl (fun q => absurd q (by decide)) (fun _ => ?_)
  refine g_iload C at_87 (pc' := 89) rfl rfl ?_
  refine g_if_eq C at_89 (by decide) (pc' := 96) (by decide) (pcN := 92) rfl (fun _ => ?_) (fun q => absurd rfl q)
  refine g_iconst C (z := (2 : Int32)) at_96 (pc' := 97) rfl rfl ?_
  refine g_goto C at_97 (by decide) (pc' := 101) (by decide) ?_
  refine g_istore C at_101 (pc' := 103) rfl (Ls' := #[.val (.int p0), .val (.int p1), .val (.int p2), .val (.int p3), .val (.int (2 : Int32)), .val (.int (0 : Int32)), .val (.int (1 : Int32)), .val (.int (0 : Int32)), .val (.int (2 : Int32)), .unset, .unset, .unset, .unset, .unset, .unset, .unset, .unset]) rfl ?_
  refine g_iload C at_103 (pc' := 105) rfl rfl ?_
  refine g_iconst C (z := (1 : Int32)) at_105 (pc' := 106) rfl rfl ?_
  refine g_icmp_le C at_106 (by decide) (pc' := 122) (by decide) (pcN := 109) rfl (fun q => absurd q (by decide)) (fun _ => ?_)
  refine g_iload C at_109 (pc' := 111) rfl rfl ?_
  refine g_if_eq C at_111 (by decide) (pc' := 118) (by decide) (pcN := 114) rfl (fun q => absurd q (by decide)) (fun _ => ?_)
  refine g_iconst C (z := (3 : Int32)) at_114 (pc' := 115) rfl rfl ?_
  refine g_goto C at_115 (by decide) (pc' := 123) (by decide) ?_
  refine g_istore C at_123 (pc' := 125) rfl (Ls' := #[.val (.int p0), .val (.int p1), .val (.int p2), .val (.int p3), .val (.int (2 : Int32)), .val (.int (0 : Int32)), .val (.int (1 : Int32)), .val (.int (0 : Int32)), .val (.int (2 : Int32)), .val (.int (3 : Int32)), .unset, .unset, .unset, .unset, .unset, .unset, .unset]) rfl ?_
  refine g_iload C at_125 (pc' := 127) rfl rfl ?_
  refine g_iload C at_127 (pc' := 129) rfl rfl ?_
  refine g_iadd C at_129 (pc' := 130) rfl ?_
  show Go w l _ n0 _ h0 0 0 130 #[.val (.int p0), .val (.int p1), .val (.int p2), .val (.int p3), .val (.int (2 : Int32)), .val (.int (0 : Int32)), .val (.int (1 : Int32)), .val (.int (0 : Int32)), .val (.int (2 : Int32)), .val (.int (3 : Int32)), .unset, .unset, .unset, .unset, .unset, .unset, .unset] [(.int (5 : Int32))]
  refine g_istore C at_130 (pc' := 132) rfl (Ls' := #[.val (.int p0), .val (.int p1), .val (.int p2), .val (.int p3), .val (.int (2 : Int32)), .val (.int (0 : Int32)), .val (.int (1 : Int32)), .val (.int (0 : Int32)), .val (.int (2 : Int32)), .val (.int (3 : Int32)), .val (.int (5 : Int32)), .unset, .unset, .unset, .unset, .unset, .unset]) rfl ?_
  refine g_iconst C (z := (2 : Int32)) at_132 (pc' := 133) rfl rfl ?_
  refine g_iload C at_133 (pc' := 135) rfl rfl ?_
  refine g_iadd C at_135 (pc' := 136) rfl ?_
  show Go w l _ n0 _ h0 0 0 136 #[.val (.int p0), .val (.int p1), .val (.int p2), .val (.int p3), .val (.int (2 : Int32)), .val (.int (0 : Int32)), .val (.int (1 : Int32)), .val (.int (0 : Int32)), .val (.int (2 : Int32)), .val (.int (3 : Int32)), .val (.int (5 : Int32)), .unset, .unset, .unset, .unset, .unset, .unset] [(.int (7 : Int32))]
  refine g_iload C at_136 (pc' := 138) rfl rfl ?_
  refine g_if_eq C at_138 (by decide) (pc' := 145) (by decide) (pcN := 141) rfl (fun _ => ?_) (fun q => absurd rfl q)
  refine g_iconst C (z := (0 : Int32)) at_145 (pc' := 146) rfl rfl ?_
  refine g_iadd C at_146 (pc' := 147) rfl ?_
  show Go w l _ n0 _ h0 0 0 147 #[.val (.int p0), .val (.int p1), .val (.int p2), .val (.int p3), .val (.int (2 : Int32)), .val (.int (0 : Int32)), .val (.int (1 : Int32)), .val (.int (0 : Int32)), .val (.int (2 : Int32)), .val (.int (3 : Int32)), .val (.int (5 : Int32)), .unset, .unset, .unset, .unset, .unset, .unset] [(.int (7 : Int32))]
  refine g_istore C at_147 (pc' := 149) rfl (Ls' := #[.val (.int p0), .val (.int p1), .val (.int p2), .val (.int p3), .val (.int (2 : Int32)), .val (.int (0 : Int32)), .val (.int (1 : Int32)), .val (.int (0 : Int32)), .val (.int (2 : Int32)), .val (.int (3 : Int32)), .val (.int (5 : Int32)), .val (.int (7 : Int32)), .unset, .unset, .unset, .unset, .unset]) rfl ?_
  refine g_iload C at_149 (pc' := 151) rfl rfl ?_
  refine g_newarr C (ad := "[B") (cap := 7) (hw _ (List.mem_of_getElem? (i := 3) rfl)) at_151 (pc' := 153) rfl rfl (by decide) (by decide) (by decide) (k' := 1) (n' := 7) rfl rfl (by decide) (by decide) rfl ?_
  intro h168 b168 E168 fb168 gb168 A168
  have ne_t_SEQUENCE_b168 : t_SEQUENCE ≠ b168 := Nat.ne_of_lt (Nat.lt_of_lt_of_le E_SEQUENCE.lt fb168)
  have ne_t_NULL_b168 : t_NULL ≠ b168 := Nat.ne_of_lt (Nat.lt_of_lt_of_le E_NULL.lt fb168)
  have ne_t_OCTET_STRING_b168 : t_OCTET_STRING ≠ b168 := Nat.ne_of_lt (Nat.lt_of_lt_of_le E_OCTET_STRING.lt fb168)
  have X := X.ext E168
  have E_SEQUENCE := E_SEQUENCE.ext E168
  have F_SEQUENCE := F_SEQUENCE.ext E168
  have E_NULL := E_NULL.ext E168
  have F_NULL := F_NULL.ext E168
  have E_OCTET_STRING := E_OCTET_STRING.ext E168
  have F_OCTET_STRING := F_OCTET_STRING.ext E168
  have A168 : Arf Z h168 b168 "[B" .byte (7 : Int32) (fun _ => (.int 0)) := A168
  refine g_astore C at_153 (pc' := 155) rfl rfl (Ls' := #[.val (.int p0), .val (.int p1), .val (.int p2), .val (.int p3), .val (.int (2 : Int32)), .val (.int (0 : Int32)), .val (.int (1 : Int32)), .val (.int (0 : Int32)), .val (.int (2 : Int32)), .val (.int (3 : Int32)), .val (.int (5 : Int32)), .val (.int (7 : Int32)), .val (.ref b168), .unset, .unset, .unset, .unset]) rfl ?_
  refine g_aload C at_155 (pc' := 157) rfl rfl rfl ?_
  refine g_iconst C (z := (0 : Int32)) at_157 (pc' := 158) rfl rfl ?_
  refine g_bipush C (z := (48 : Int32)) at_158 (pc' := 160) rfl rfl ?_
  refine g_bastore C A168 (by decide) (by decide) at_160 (pc' := 161) rfl gb168 (fun h169 W170 A168' => ?_)
  have X := X.wr W170 gb168
  have E_SEQUENCE := E_SEQUENCE.wr W170
  have F_SEQUENCE := F_SEQUENCE.other W170 (Or.inl ne_t_SEQUENCE_b168)
  have E_NULL := E_NULL.wr W170
  have F_NULL := F_NULL.other W170 (Or.inl ne_t_NULL_b168)
  have E_OCTET_STRING := E_OCTET_STRING.wr W170
  have F_OCTET_STRING := F_OCTET_STRING.other W170 (Or.inl ne_t_OCTET_STRING_b168)
  have A168 : Arf Z h169 b168 "[B" .byte (7 : Int32) (upd (fun _ => (.int 0)) 0 (.int (48 : Int32))) := A168'
  refine g_aload C at_161 (pc' := 163) rfl rfl rfl ?_
  refine g_iconst C (z := (1 : Int32)) at_163 (pc' := 164) rfl rfl ?_
  refine g_iload C at_164 (pc' := 166) rfl rfl ?_
  refine g_i2b C at_166 (pc' := 167) rfl ?_
  show Go w l _ n0 _ h169 1 7 167 #[.val (.int p0), .val (.int p1), .val (.int p2), .val (.int p3), .val (.int (2 : Int32)), .val (.int (0 : Int32)), .val (.int (1 : Int32)), .val (.int (0 : Int32)), .val (.int (2 : Int32)), .val (.int (3 : Int32)), .val (.int (5 : Int32)), .val (.int (7 : Int32)), .val (.ref b168), .unset, .unset, .unset, .unset] [(.int (5 : Int32)), (.int (1 : Int32)), (.ref b168)]
  refine g_bastore C A168 (by decide) (by decide) at_167 (pc' := 168) rfl gb168 (fun h171 W172 A168' => ?_)
  have X := X.wr W172 gb168
  have E_SEQUENCE := E_SEQUENCE.wr W172
  have F_SEQUENCE := F_SEQUENCE.other W172 (Or.inl ne_t_SEQUENCE_b168)
  have E_NULL := E_NULL.wr W172
  have F_NULL := F_NULL.other W172 (Or.inl ne_t_NULL_b168)
  have E_OCTET_STRING := E_OCTET_STRING.wr W172
  have F_OCTET_STRING := F_OCTET_STRING.other W172 (Or.inl ne_t_OCTET_STRING_b168)
  have A168 : Arf Z h171 b168 "[B" .byte (7 : Int32) (upd (upd (fun _ => (.int 0)) 0 (.int (48 : Int32))) 1 (.int (5 : Int32))) := A168'
  refine g_iconst C (z := (2 : Int32)) at_168 (pc' := 169) rfl rfl ?_
  refine g_istore C at_169 (pc' := 171) rfl (Ls' := #[.val (.int p0), .val (.int p1), .val (.int p2), .val (.int p3), .val (.int (2 : Int32)), .val (.int (0 : Int32)), .val (.int (1 : Int32)), .val (.int (0 : Int32)), .val (.int (2 : Int32)), .val (.int (3 : Int32)), .val (.int (5 : Int32)), .val (.int (7 : Int32)), .val (.ref b168), .val (.int (2 : Int32)), .unset, .unset, .unset]) rfl ?_
  refine g_iload C at_171 (pc' := 173) rfl rfl ?_
  refine g_if_le C at_173 (by decide) (pc' := 189) (by decide) (pcN := 176) rfl (fun q => absurd q (by decide)) (fun _ => ?_)
  refine g_aload C at_176 (pc' := 178) rfl rfl rfl ?_
  refine g_iload C at_178 (pc' := 180) rfl rfl ?_
  refine g_iload C at_180 (pc' := 182) rfl rfl ?_
  refine g_iloadN C at_182 (pc' := 183) rfl rfl ?_
  refine g_i2b C at_183 (pc' := 184) rfl ?_
  refine g_static (rm := R_m_put0) C (y := (⟨"com/example/sigillum/sigillum/codec/DerReaderHasMorePinLaw", "put", "([BIZB)I"⟩ : MethodName)) (hw _ (List.mem_of_getElem? (i := 54) rfl)) (hw _ (List.mem_of_getElem? (i := 55) rfl)) (hw _ (List.mem_of_getElem? (i := 56) rfl)) (hw _ (List.mem_of_getElem? (i := 57) rfl)) (by decide) at_184 (pc' := 187) rfl (argsL := [(.ref b168), (.int (2 : Int32)), (.int (0 : Int32)), (.int (p1.toInt8.toInt32))]) (rest := []) (lenOf pd_12 rfl) rfl (W := 0) (Nat.le_of_eq rfl) rfl (fun hn9 => Met.back (rm := R_m_put0) (m_put0 hw b168 (2 : Int32) (p1.toInt8.toInt32) (7 : Int32) (upd (upd (fun _ => (.int 0)) 0 (.int (48 : Int32))) 1 (.int (5 : Int32))) A168 gb168 (by decide) (by decide) (by decide) (by decide)) hn9 C.hZ (hw _ (List.mem_of_getElem? (i := 57) rfl)) (hw _ (List.mem_of_getElem? (i := 56) rfl)) (by decide) (by decide)) (k' := 1) (n' := 7) rfl rfl (by decide) (by decide) ?_
  rintro _ h173 ⟨rfl, Kp, Ap⟩
  have X := X.keep Kp (allS gb168 all0)
  have E_SEQUENCE := E_SEQUENCE.keep Kp
  have F_SEQUENCE := F_SEQUENCE.keep Kp (ninS ne_t_SEQUENCE_b168 nin0)
  have E_NULL := E_NULL.keep Kp
  have F_NULL := F_NULL.keep Kp (ninS ne_t_NULL_b168 nin0)
  have E_OCTET_STRING := E_OCTET_STRING.keep Kp
  have F_OCTET_STRING := F_OCTET_STRING.keep Kp (ninS ne_t_OCTET_STRING_b168 nin0)
  have A168 : Arf Z h173 b168 "[B" .byte (7 : Int32) (upd (upd (upd (upd (fun _ => (.int 0)) 0 (.int (48 : Int32))) 1 (.int (5 : Int32))) 2 (.int (5 : Int32))) 3 (.int (0 : Int32))) := Ap
  show Go w l _ n0 _ h173 1 7 187 #[.val (.int p0), .val (.int p1), .val (.int p2), .val (.int p3), .val (.int (2 : Int32)), .val (.int (0 : Int32)), .val (.int (1 : Int32)), .val (.int (0 : Int32)), .val (.int (2 : Int32)), .val (.int (3 : Int32)), .val (.int (5 : Int32)), .val (.int (7 : Int32)), .val (.ref b168), .val (.int (2 : Int32)), .unset, .unset, .unset] [(.int (4 : Int32))]
  refine g_istore C at_187 (pc' := 189) rfl (Ls' := #[.val (.int p0), .val (.int p1), .val (.int p2), .val (.int p3), .val (.int (2 : Int32)), .val (.int (0 : Int32)), .val (.int (1 : Int32)), .val (.int (0 : Int32)), .val (.int (2 : Int32)), .val (.int (3 : Int32)), .val (.int (5 : Int32)), .val (.int (7 : Int32)), .val (.ref b168), .val (.int (4 : Int32)), .unset, .unset, .unset]) rfl ?_
  refine g_iload C at_189 (pc' := 191) rfl rfl ?_
  refine g_iconst C (z := (1 : Int32)) at_191 (pc' := 192) rfl rfl ?_
  refine g_icmp_le C at_192 (by decide) (pc' := 208) (by decide) (pcN := 195) rfl (fun q => absurd q (by decide)) (fun _ => ?_)
  refine g_aload C at_195 (pc' := 197) rfl rfl rfl ?_
  refine g_iload C at_197 (pc' := 199) rfl rfl ?_
  refine g_iload C at_199 (pc' := 201) rfl rfl ?_
  refine g_iloadN C at_201 (pc' := 202) rfl rfl ?_
  refine g_i2b C at_202 (pc' := 203) rfl ?_
  refine g_static (rm := R_m_put1) C (y := (⟨"com/example/sigillum/sigillum/codec/DerReaderHasMorePinLaw", "put", "([BIZB)I"⟩ : MethodName)) (hw _ (List.mem_of_getElem? (i := 54) rfl)) (hw _ (List.mem_of_getElem? (i := 55) rfl)) (hw _ (List.mem_of_getElem? (i := 56) rfl)) (hw _ (List.mem_of_getElem? (i := 57) rfl)) (by decide) at_203 (pc' := 206) rfl (argsL := [(.ref b168), (.int (4 : Int32)), (.int (1 : Int32)), (.int (p2.toInt8.toInt32))]) (rest := []) (lenOf pd_12 rfl) rfl (W := 0) (Nat.le_of_eq rfl) rfl (fun hn9 => Met.back (rm := R_m_put1) (m_put1 hw b168 (4 : Int32) (p2.toInt8.toInt32) (7 : Int32) (upd (upd (upd (upd (fun _ => (.int 0)) 0 (.int (48 : Int32))) 1 (.int (5 : Int32))) 2 (.int (5 : Int32))) 3 (.int (0 : Int32))) A168 gb168 (by decide) (by decide) (by decide) (by decide) (by decide) (by decide)) hn9 C.hZ (hw _ (List.mem_of_getElem? (i := 57) rfl)) (hw _ (List.mem_of_getElem? (i := 56) rfl)) (by decide) (by decide)) (k' := 1) (n' := 7) rfl rfl (by decide) (by decide) ?_
  rintro _ h174 ⟨rfl, Kp, Ap⟩
  have X := X.keep Kp (allS gb168 all0)
  have E_SEQUENCE := E_SEQUENCE.keep Kp
  have F_SEQUENCE := F_SEQUENCE.keep Kp (ninS ne_t_SEQUENCE_b168 nin0)
  have E_NULL := E_NULL.keep Kp
  have F_NULL := F_NULL.keep Kp (ninS ne_t_NULL_b168 nin0)
  have E_OCTET_STRING := E_OCTET_STRING.keep Kp
  have F_OCTET_STRING := F_OCTET_STRING.keep Kp (ninS ne_t_OCTET_STRING_b168 nin0)
  have A168 : Arf Z h174 b168 "[B" .byte (7 : Int32) (upd (upd (upd (upd (upd (upd (upd (fun _ => (.int 0)) 0 (.int (48 : Int32))) 1 (.int (5 : Int32))) 2 (.int (5 : Int32))) 3 (.int (0 : Int32))) 4 (.int (4 : Int32))) 5 (.int (1 : Int32))) 6 (.int (nar .byte (p2.toInt8.toInt32)))) := Ap
  show Go w l _ n0 _ h174 1 7 206 #[.val (.int p0), .val (.int p1), .val (.int p2), .val (.int p3), .val (.int (2 : Int32)), .val (.int (0 : Int32)), .val (.int (1 : Int32)), .val (.int (0 : Int32)), .val (.int (2 : Int32)), .val (.int (3 : Int32)), .val (.int (5 : Int32)), .val (.int (7 : Int32)), .val (.ref b168), .val (.int (4 : Int32)), .unset, .unset, .unset] [(.int (7 : Int32))]
  refine g_istore C at_206 (pc' := 208) rfl (Ls' := #[.val (.int p0), .val (.int p1), .val (.int p2), .val (.int p3), .val (.int (2 : Int32)), .val (.int (0 : Int32)), .val (.int (1 : Int32)), .val (.int (0 : Int32)), .val (.int (2 : Int32)), .val (.int (3 : Int32)), .val (.int (5 : Int32)), .val (.int (7 : Int32)), .val (.ref b168), .val (.int (7 : Int32)), .unset, .unset, .unset]) rfl ?_
  refine g_iload C at_208 (pc' := 210) rfl rfl ?_
  refine g_if_eq C at_210 (by decide) (pc' := 220) (by decide) (pcN := 213) rfl (fun _ => ?_) (fun q => absurd rfl q)
  refine g_new C (hw _ (List.mem_of_getElem? (i := 0) rfl)) (hw _ (List.mem_of_getElem? (i := 1) rfl)) (hw _ (List.mem_of_getElem? (i := 2) rfl)) at_220 (pc' := 223) rfl (k' := 2) (n' := 10) rfl rfl (by decide) (by decide) ?_
  intro h175 b175 E175 fb175 gb175 A175 D175
  have ne_t_SEQUENCE_b175 : t_SEQUENCE ≠ b175 := Nat.ne_of_lt (Nat.lt_of_lt_of_le E_SEQUENCE.lt fb175)
  have ne_t_NULL_b175 : t_NULL ≠ b175 := Nat.ne_of_lt (Nat.lt_of_lt_of_le E_NULL.lt fb175)
  have ne_t_OCTET_STRING_b175 : t_OCTET_STRING ≠ b175 := Nat.ne_of_lt (Nat.lt_of_lt_of_le E_OCTET_STRING.lt fb175)
  have ne_b168_b175 : b168 ≠ b175 := Nat.ne_of_lt (Nat.lt_of_lt_of_le A168.lt fb175)
  have X := X.ext E175
  have E_SEQUENCE := E_SEQUENCE.ext E175
  have F_SEQUENCE := F_SEQUENCE.ext E175
  have E_NULL := E_NULL.ext E175
  have F_NULL := F_NULL.ext E175
  have E_OCTET_STRING := E_OCTET_STRING.ext E175
  have F_OCTET_STRING := F_OCTET_STRING.ext E175
  have A168 := A168.ext E175
  have F175_der : Fld Z h175 b175 "com/example/sigillum/sigillum/codec/DerReader" "der" "[B" .null := D175 (Or.inr (hw _ (List.mem_of_getElem? (i := 23) rfl))) (ty := (.array .byte)) (by decide)
  have F175_position : Fld Z h175 b175 "com/example/sigillum/sigillum/codec/DerReader" "position" "I" (.int (0 : Int32)) := D175 (Or.inl (hw _ (List.mem_of_getElem? (i := 25) rfl))) (ty := .int) (by decide)
  have F175_end : Fld Z h175 b175 "com/example/sigillum/sigillum/codec/DerReader" "end" "I" (.int (0 : Int32)) := D175 (Or.inr (hw _ (List.mem_of_getElem? (i := 27) rfl))) (ty := .int) (by decide)
  refine g_dup C at_223 (pc' := 224) rfl rfl ?_
  refine g_aload C at_224 (pc' := 226) rfl rfl rfl ?_
  refine g_special (rm := R_m_init1) (a := b175) C (y := (⟨"com/example/sigillum/sigillum/codec/DerReader", "<init>", "([B)V"⟩ : MethodName)) rfl (hw _ (List.mem_of_getElem? (i := 4) rfl)) (hw _ (List.mem_of_getElem? (i := 5) rfl)) (hw _ (List.mem_of_getElem? (i := 6) rfl)) (by decide) at_226 (pc' := 229) rfl (argsL := [(.ref b168)]) (rest := [(.ref b175)]) (lenOf pd_10 rfl) rfl (W := 1) (Nat.le_of_eq rfl) rfl (fun hn9 => Met.back (rm := R_m_init1) (m_init1 hw b175 b168 (7 : Int32) (upd (upd (upd (upd (upd (upd (upd (fun _ => (.int 0)) 0 (.int (48 : Int32))) 1 (.int (5 : Int32))) 2 (.int (5 : Int32))) 3 (.int (0 : Int32))) 4 (.int (4 : Int32))) 5 (.int (1 : Int32))) 6 (.int (nar .byte (p2.toInt8.toInt32)))) ⟨A175, F175_der, F175_position, F175_end⟩ A168 (by decide) gb175) hn9 C.hZ (hw _ (List.mem_of_getElem? (i := 6) rfl)) (hw _ (List.mem_of_getElem? (i := 2) rfl)) (by decide) (by decide)) (k' := 3) (n' := 19) rfl rfl (by decide) (by decide) ?_
  rintro _ h176 ⟨rfl, Ki, t_b175, ft_b175, gt_b175, ⟨E_b175, F1_b175, F2_b175, F3_b175⟩, At_b175⟩
  have ne_t_SEQUENCE_t_b175 : t_SEQUENCE ≠ t_b175 := Nat.ne_of_lt (Nat.lt_of_lt_of_le E_SEQUENCE.lt ft_b175)
  have ne_t_NULL_t_b175 : t_NULL ≠ t_b175 := Nat.ne_of_lt (Nat.lt_of_lt_of_le E_NULL.lt ft_b175)
  have ne_t_OCTET_STRING_t_b175 : t_OCTET_STRING ≠ t_b175 := Nat.ne_of_lt (Nat.lt_of_lt_of_le E_OCTET_STRING.lt ft_b175)
  have ne_b168_t_b175 : b168 ≠ t_b175 := Nat.ne_of_lt (Nat.lt_of_lt_of_le A168.lt ft_b175)
  have ne_b175_t_b175 : b175 ≠ t_b175 := Nat.ne_of_lt (Nat.lt_of_lt_of_le A175.lt ft_b175)
  have X := X.keep Ki (allS gb175 all0)
  have E_SEQUENCE := E_SEQUENCE.keep Ki
  have F_SEQUENCE := F_SEQUENCE.keep Ki (ninS ne_t_SEQUENCE_b175 nin0)
  have E_NULL := E_NULL.keep Ki
  have F_NULL := F_NULL.keep Ki (ninS ne_t_NULL_b175 nin0)
  have E_OCTET_STRING := E_OCTET_STRING.keep Ki
  have F_OCTET_STRING := F_OCTET_STRING.keep Ki (ninS ne_t_OCTET_STRING_b175 nin0)
  have A168 := A168.keep Ki (ninS ne_b168_b175 nin0)
  have A175 := A175.keep Ki
  show Go w l _ n0 _ h176 3 19 229 #[.val (.int p0), .val (.int p1), .val (.int p2), .val (.int p3), .val (.int (2 : Int32)), .val (.int (0 : Int32)), .val (.int (1 : Int32)), .val (.int (0 : Int32)), .val (.int (2 : Int32)), .val (.int (3 : Int32)), .val (.int (5 : Int32)), .val (.int (7 : Int32)), .val (.ref b168), .val (.int (7 : Int32)), .unset, .unset, .unset] [(.ref b175)]
  refine g_astore C at_229 (pc' := 231) rfl rfl (Ls' := #[.val (.int p0), .val (.int p1), .val (.int p2), .val (.int p3), .val (.int (2 : Int32)), .val (.int (0 : Int32)), .val (.int (1 : Int32)), .val (.int (0 : Int32)), .val (.int (2 : Int32)), .val (.int (3 : Int32)), .val (.int (5 : Int32)), .val (.int (7 : Int32)), .val (.ref b168), .val (.int (7 : Int32)), .val (.ref b175), .unset, .unset]) rfl ?_
  refine g_aload C at_231 (pc' := 233) rfl rfl rfl ?_
  refine g_virtual (rm := R_m_hasMore) (a := b175) C (y := (⟨"com/example/sigillum/sigillum/codec/DerReader", "hasMore", "()Z"⟩ : MethodName)) (y' := (⟨"com/example/sigillum/sigillum/codec/DerReader", "hasMore", "()Z"⟩ : MethodName)) (hw _ (List.mem_of_getElem? (i := 28) rfl)) (hw _ (List.mem_of_getElem? (i := 29) rfl)) (g_nf C (hw _ (List.mem_of_getElem? (i := 31) rfl))) (hw _ (List.mem_of_getElem? (i := 31) rfl)) (hw _ (List.mem_of_getElem? (i := 30) rfl)) (by decide) E_b175 at_233 (pc' := 236) rfl (argsL := []) (rest := []) (lenOf pd_1 rfl) rfl (W := 0) (Nat.le_of_eq rfl) rfl (fun hn9 => Met.back (rm := R_m_hasMore) (m_hasMore hw b175 (0 : Int32) (7 : Int32) F2_b175 F3_b175) hn9 C.hZ (hw _ (List.mem_of_getElem? (i := 32) rfl)) (hw _ (List.mem_of_getElem? (i := 2) rfl)) (by decide) (by decide)) (k' := 3) (n' := 19) rfl rfl (by decide) (by decide) ?_
  rintro _ _ ⟨rfl, rfl⟩
  show Go w l _ n0 _ h176 3 19 236 #[.val (.int p0), .val (.int p1), .val (.int p2), .val (.int p3), .val (.int (2 : Int32)), .val (.int (0 : Int32)), .val (.int (1 : Int32)), .val (.int (0 : Int32)), .val (.int (2 : Int32)), .val (.int (3 : Int32)), .val (.int (5 : Int32)), .val (.int (7 : Int32)), .val (.ref b168), .val (.int (7 : Int32)), .val (.ref b175), .unset, .unset] [(.int (1 : Int32))]
  refine g_istore C at_236 (pc' := 238) rfl (Ls' := #[.val (.int p0), .val (.int p1), .val (.int p2), .val (.int p3), .val (.int (2 : Int32)), .val (.int (0 : Int32)), .val (.int (1 : Int32)), .val (.int (0 : Int32)), .val (.int (2 : Int32)), .val (.int (3 : Int32)), .val (.int (5 : Int32)), .val (.int (7 : Int32)), .val (.ref b168), .val (.int (7 : Int32)), .val (.ref b175), .val (.int (1 : Int32)), .unset]) rfl ?_
  refine g_aload C at_238 (pc' := 240) rfl rfl rfl ?_
  refine g_virtual (rm := R_m_seq) (a := b175) C (y := (⟨"com/example/sigillum/sigillum/codec/DerReader", "sequence", "()Lcom/example/sigillum/sigillum/codec/DerReader;"⟩ : MethodName)) (y' := (⟨"com/example/sigillum/sigillum/codec/DerReader", "sequence", "()Lcom/example/sigillum/sigillum/codec/DerReader;"⟩ : MethodName)) (hw _ (List.mem_of_getElem? (i := 33) rfl)) (hw _ (List.mem_of_getElem? (i := 34) rfl)) (g_nf C (hw _ (List.mem_of_getElem? (i := 36) rfl))) (hw _ (List.mem_of_getElem? (i := 36) rfl)) (hw _ (List.mem_of_getElem? (i := 35) rfl)) (by decide) E_b175 at_240 (pc' := 243) rfl (argsL := []) (rest := []) (lenOf pd_11 rfl) rfl (W := 0) (Nat.le_of_eq rfl) rfl (fun hn9 => Met.back (rm := R_m_seq) (m_seq hw b175 t_b175 t_SEQUENCE (0 : Int32) (7 : Int32) (7 : Int32) (48 : Int32) (5 : Int32) (5 : Int32) (48 : Int32) (2 : Int32) (upd (upd (upd (upd (upd (upd (upd (fun _ => (.int 0)) 0 (.int (48 : Int32))) 1 (.int (5 : Int32))) 2 (.int (5 : Int32))) 3 (.int (0 : Int32))) 4 (.int (4 : Int32))) 5 (.int (1 : Int32))) 6 (.int (nar .byte (p2.toInt8.toInt32)))) (7 : Int32) ⟨E_b175, F1_b175, F2_b175, F3_b175⟩ At_b175 E_SEQUENCE F_SEQUENCE gb175 (Ne.symm ne_b175_t_b175) (by decide) (by decide) (by decide) rfl (by decide) (by decide) (by decide) (by decide) rfl (by decide) (by decide) (by decide) (by decide) (by decide) (S_SEQUENCE.ext X.2)) hn9 C.hZ (hw _ (List.mem_of_getElem? (i := 37) rfl)) (hw _ (List.mem_of_getElem? (i := 2) rfl)) (by decide) (by decide)) (k' := 4) (n' := 22) rfl rfl (by decide) (by decide) ?_
  rintro _ h177 ⟨sq, rfl, fsq, gsq, Ks, ⟨E_b175, F1_b175, F2_b175, F3_b175⟩, ⟨E_sq, F1_sq, F2_sq, F3_sq⟩⟩
  have ne_t_SEQUENCE_sq : t_SEQUENCE ≠ sq := Nat.ne_of_lt (Nat.lt_of_lt_of_le E_SEQUENCE.lt fsq)
  have ne_t_NULL_sq : t_NULL ≠ sq := Nat.ne_of_lt (Nat.lt_of_lt_of_le E_NULL.lt fsq)
  have ne_t_OCTET_STRING_sq : t_OCTET_STRING ≠ sq := Nat.ne_of_lt (Nat.lt_of_lt_of_le E_OCTET_STRING.lt fsq)
  have ne_b168_sq : b168 ≠ sq := Nat.ne_of_lt (Nat.lt_of_lt_of_le A168.lt fsq)
  have ne_t_b175_sq : t_b175 ≠ sq := Nat.ne_of_lt (Nat.lt_of_lt_of_le At_b175.lt fsq)
  have X := X.keep Ks (allS gb175 all0)
  have E_SEQUENCE := E_SEQUENCE.keep Ks
  have F_SEQUENCE := F_SEQUENCE.keep Ks (ninS ne_t_SEQUENCE_b175 nin0)
  have E_NULL := E_NULL.keep Ks
  have F_NULL := F_NULL.keep Ks (ninS ne_t_NULL_b175 nin0)
  have E_OCTET_STRING := E_OCTET_STRING.keep Ks
  have F_OCTET_STRING := F_OCTET_STRING.keep Ks (ninS ne_t_OCTET_STRING_b175 nin0)
  have A168 := A168.keep Ks (ninS ne_b168_b175 nin0)
  have At_b175 := At_b175.keep Ks (ninS (Ne.symm ne_b175_t_b175) nin0)
  show Go w l _ n0 _ h177 4 22 243 #[.val (.int p0), .val (.int p1), .val (.int p2), .val (.int p3), .val (.int (2 : Int32)), .val (.int (0 : Int32)), .val (.int (1 : Int32)), .val (.int (0 : Int32)), .val (.int (2 : Int32)), .val (.int (3 : Int32)), .val (.int (5 : Int32)), .val (.int (7 : Int32)), .val (.ref b168), .val (.int (7 : Int32)), .val (.ref b175), .val (.int (1 : Int32)), .unset] [(.ref sq)]
  refine g_astore C at_243 (pc' := 245) rfl rfl (Ls' := #[.val (.int p0), .val (.int p1), .val (.int p2), .val (.int p3), .val (.int (2 : Int32)), .val (.int (0 : Int32)), .val (.int (1 : Int32)), .val (.int (0 : Int32)), .val (.int (2 : Int32)), .val (.int (3 : Int32)), .val (.int (5 : Int32)), .val (.int (7 : Int32)), .val (.ref b168), .val (.int (7 : Int32)), .val (.ref b175), .val (.int (1 : Int32)), .val (.ref sq)]) rfl ?_
  refine g_iload C at_245 (pc' := 247) rfl rfl ?_
  refine g_if_eq C at_247 (by decide) (pc' := 264) (by decide) (pcN := 250) rfl (fun q => absurd q (by decide)) (fun _ => ?_)
  refine g_aload C at_250 (pc' := 252) rfl rfl rfl ?_
  refine g_virtual (rm := R_m_hasMore) (a := b175) C (y := (⟨"com/example/sigillum/sigillum/codec/DerReader", "hasMore", "()Z"⟩ : MethodName)) (y' := (⟨"com/example/sigillum/sigillum/codec/DerReader", "hasMore", "()Z"⟩ : MethodName)) (hw _ (List.mem_of_getElem? (i := 28) rfl)) (hw _ (List.mem_of_getElem? (i := 29) rfl)) (g_nf C (hw _ (List.mem_of_getElem? (i := 31) rfl))) (hw _ (List.mem_of_getElem? (i := 31) rfl)) (hw _ (List.mem_of_getElem? (i := 30) rfl)) (by decide) E_b175 at_252 (pc' := 255) rfl (argsL := []) (rest := []) (lenOf pd_1 rfl) rfl (W := 0) (Nat.le_of_eq rfl) rfl (fun hn9 => Met.back (rm := R_m_hasMore) (m_hasMore hw b175 (7 : Int32) (7 : Int32) F2_b175 F3_b175) hn9 C.hZ (hw _ (List.mem_of_getElem? (i := 32) rfl)) (hw _ (List.mem_of_getElem? (i := 2) rfl)) (by decide) (by decide)) (k' := 4) (n' := 22) rfl rfl (by decide) (by decide) ?_
  rintro _ _ ⟨rfl, rfl⟩
  show Go w l _ n0 _ h177 4 22 255 #[.val (.int p0), .val (.int p1), .val (.int p2), .val (.int p3), .val (.int (2 : Int32)), .val (.int (0 : Int32)), .val (.int (1 : Int32)), .val (.int (0 : Int32)), .val (.int (2 : Int32)), .val (.int (3 : Int32)), .val (.int (5 : Int32)), .val (.int (7 : Int32)), .val (.ref b168), .val (.int (7 : Int32)), .val (.ref b175), .val (.int (1 : Int32)), .val (.ref sq)] [(.int (0 : Int32))]
  refine g_iload C at_255 (pc' := 257) rfl rfl ?_
  refine g_icmp_ne C at_257 (by decide) (pc' := 264) (by decide) (pcN := 260) rfl (fun q => absurd rfl q) (fun _ => ?_)
  refine g_iconst C (z := (1 : Int32)) at_260 (pc' := 261) rfl rfl ?_
  refine g_goto C at_261 (by decide) (pc' := 265) (by decide) ?_
  refine g_istore C at_265 (pc' := 267) rfl (Ls' := #[.val (.int p0), .val (.int p1), .val (.int p2), .val (.int p3), .val (.int (2 : Int32)), .val (.int (0 : Int32)), .val (.int (1 : Int32)), .val (.int (0 : Int32)), .val (.int (2 : Int32)), .val (.int (3 : Int32)), .val (.int (5 : Int32)), .val (.int (7 : Int32)), .val (.ref b168), .val (.int (7 : Int32)), .val (.ref b175), .val (.int (1 : Int32)), .val (.ref sq)]) rfl ?_
  refine g_iload C at_267 (pc' := 269) rfl rfl ?_
  refine g_if_eq C at_269 (by decide) (pc' := 294) (by decide) (pcN := 272) rfl (fun q => absurd q (by decide)) (fun _ => ?_)
  refine g_aload C at_272 (pc' := 274) rfl rfl rfl ?_
  refine g_virtual (rm := R_m_hasMore) (a := sq) C (y := (⟨"com/example/sigillum/sigillum/codec/DerReader", "hasMore", "()Z"⟩ : MethodName)) (y' := (⟨"com/example/sigillum/sigillum/codec/DerReader", "hasMore", "()Z"⟩ : MethodName)) (hw _ (List.mem_of_getElem? (i := 28) rfl)) (hw _ (List.mem_of_getElem? (i := 29) rfl)) (g_nf C (hw _ (List.mem_of_getElem? (i := 31) rfl))) (hw _ (List.mem_of_getElem? (i := 31) rfl)) (hw _ (List.mem_of_getElem? (i := 30) rfl)) (by decide) E_sq at_274 (pc' := 277) rfl (argsL := []) (rest := []) (lenOf pd_1 rfl) rfl (W := 0) (Nat.le_of_eq rfl) rfl (fun hn9 => Met.back (rm := R_m_hasMore) (m_hasMore hw sq (2 : Int32) (7 : Int32) F2_sq F3_sq) hn9 C.hZ (hw _ (List.mem_of_getElem? (i := 32) rfl)) (hw _ (List.mem_of_getElem? (i := 2) rfl)) (by decide) (by decide)) (k' := 4) (n' := 22) rfl rfl (by decide) (by decide) ?_
  rintro _ _ ⟨rfl, rfl⟩
  show Go w l _ n0 _ h177 4 22 277 #[.val (.int p0), .val (.int p1), .val (.int p2), .val (.int p3), .val (.int (2 : Int32)), .val (.int (0 : Int32)), .val (.int (1 : Int32)), .val (.int (0 : Int32)), .val (.int (2 : Int32)), .val (.int (3 : Int32)), .val (.int (5 : Int32)), .val (.int (7 : Int32)), .val (.ref b168), .val (.int (7 : Int32)), .val (.ref b175), .val (.int (1 : Int32)), .val (.ref sq)] [(.int (1 : Int32))]
  refine g_iload C at_277 (pc' := 279) rfl rfl ?_
  refine g_if_le C at_279 (by decide) (pc' := 286) (by decide) (pcN := 282) rfl (fun q => absurd q (by decide)) (fun _ => ?_)
  refine g_iconst C (z := (1 : Int32)) at_282 (pc' := 283) rfl rfl ?_
  refine g_goto C at_283 (by decide) (pc' := 287) (by decide) ?_
  refine g_icmp_ne C at_287 (by decide) (pc' := 294) (by decide) (pcN := 290) rfl (fun q => absurd rfl q) (fun _ => ?_)
  refine g_iconst C (z := (1 : Int32)) at_290 (pc' := 291) rfl rfl ?_
  refine g_goto C at_291 (by decide) (pc' := 295) (by decide) ?_
  refine g_istore C at_295 (pc' := 297) rfl (Ls' := #[.val (.int p0), .val (.int p1), .val (.int p2), .val (.int p3), .val (.int (2 : Int32)), .val (.int (0 : Int32)), .val (.int (1 : Int32)), .val (.int (0 : Int32)), .val (.int (2 : Int32)), .val (.int (3 : Int32)), .val (.int (5 : Int32)), .val (.int (7 : Int32)), .val (.ref b168), .val (.int (7 : Int32)), .val (.ref b175), .val (.int (1 : Int32)), .val (.ref sq)]) rfl ?_
  refine g_iload C at_297 (pc' := 299) rfl rfl ?_
  refine g_if_le C at_299 (by decide) (pc' := 340) (by decide) (pcN := 302) rfl (fun q => absurd q (by decide)) (fun _ => ?_)
  refine g_aload C at_302 (pc' := 304) rfl rfl rfl ?_
  refine g_iload C at_304 (pc' := 306) rfl rfl ?_
  refine g_static (rm := R_m_read0) C (y := (⟨"com/example/sigillum/sigillum/codec/DerReaderHasMorePinLaw", "read", "(Lcom/example/sigillum/sigillum/codec/DerReader;Z)V"⟩ : MethodName)) (hw _ (List.mem_of_getElem? (i := 58) rfl)) (hw _ (List.mem_of_getElem? (i := 59) rfl)) (hw _ (List.mem_of_getElem? (i := 56) rfl)) (hw _ (List.mem_of_getElem? (i := 60) rfl)) (by decide) at_306 (pc' := 309) rfl (argsL := [(.ref sq), (.int (0 : Int32))]) (rest := []) (lenOf pd_13 rfl) rfl (W := 0) (Nat.le_of_eq rfl) rfl (fun hn9 => Met.back (rm := R_m_read0) (m_read0 hw sq t_b175 t_NULL (2 : Int32) (7 : Int32) (7 : Int32) (5 : Int32) (0 : Int32) (0 : Int32) (5 : Int32) (4 : Int32) (upd (upd (upd (upd (upd (upd (upd (fun _ => (.int 0)) 0 (.int (48 : Int32))) 1 (.int (5 : Int32))) 2 (.int (5 : Int32))) 3 (.int (0 : Int32))) 4 (.int (4 : Int32))) 5 (.int (1 : Int32))) 6 (.int (nar .byte (p2.toInt8.toInt32)))) ⟨E_sq, F1_sq, F2_sq, F3_sq⟩ At_b175 E_NULL F_NULL gsq ne_t_b175_sq (by decide) (by decide) (by decide) rfl (by decide) (by decide) (by decide) (by decide) rfl (by decide) (by decide) (by decide) (by decide) (4 : Int32) (0 : Int32) (by decide) (by decide) (by decide) (by decide) (by decide) (by decide) (by decide) (by decide) (by decide) (by decide) (by decide) (by decide) (S_NULL.ext X.2)) hn9 C.hZ (hw _ (List.mem_of_getElem? (i := 60) rfl)) (hw _ (List.mem_of_getElem? (i := 56) rfl)) (by decide) (by decide)) (k' := 5) (n' := 25) rfl rfl (by decide) (by decide) ?_
  rintro _ h178 ⟨rfl, Kr, ⟨E_sq, F1_sq, F2_sq, F3_sq⟩⟩
  have X := X.keep Kr (allS gsq all0)
  have E_SEQUENCE := E_SEQUENCE.keep Kr
  have F_SEQUENCE := F_SEQUENCE.keep Kr (ninS ne_t_SEQUENCE_sq nin0)
  have E_NULL := E_NULL.keep Kr
  have F_NULL := F_NULL.keep Kr (ninS ne_t_NULL_sq nin0)
  have E_OCTET_STRING := E_OCTET_STRING.keep Kr
  have F_OCTET_STRING := F_OCTET_STRING.keep Kr (ninS ne_t_OCTET_STRING_sq nin0)
  have A168 := A168.keep Kr (ninS ne_b168_sq nin0)
  have At_b175 := At_b175.keep Kr (ninS ne_t_b175_sq nin0)
  have E_b175 := E_b175.keep Kr
  show Go w l _ n0 _ h178 5 25 309 #[.val (.int p0), .val (.int p1), .val (.int p2), .val (.int p3), .val (.int (2 : Int32)), .val (.int (0 : Int32)), .val (.int (1 : Int32)), .val (.int (0 : Int32)), .val (.int (2 : Int32)), .val (.int (3 : Int32)), .val (.int (5 : Int32)), .val (.int (7 : Int32)), .val (.ref b168), .val (.int (7 : Int32)), .val (.ref b175), .val (.int (1 : Int32)), .val (.ref sq)] []
  refine g_iload C at_309 (pc' := 311) rfl rfl ?_
  refine g_if_eq C at_311 (by decide) (pc' := 337) (by decide) (pcN := 314) rfl (fun q => absurd q (by decide)) (fun _ => ?_)
  refine g_aload C at_314 (pc' := 316) rfl rfl rfl ?_
  refine g_virtual (rm := R_m_hasMore) (a := sq) C (y := (⟨"com/example/sigillum/sigillum/codec/DerReader", "hasMore", "()Z"⟩ : MethodName)) (y' := (⟨"com/example/sigillum/sigillum/codec/DerReader", "hasMore", "()Z"⟩ : MethodName)) (hw _ (List.mem_of_getElem? (i := 28) rfl)) (hw _ (List.mem_of_getElem? (i := 29) rfl)) (g_nf C (hw _ (List.mem_of_getElem? (i := 31) rfl))) (hw _ (List.mem_of_getElem? (i := 31) rfl)) (hw _ (List.mem_of_getElem? (i := 30) rfl)) (by decide) E_sq at_316 (pc' := 319) rfl (argsL := []) (rest := []) (lenOf pd_1 rfl) rfl (W := 0) (Nat.le_of_eq rfl) rfl (fun hn9 => Met.back (rm := R_m_hasMore) (m_hasMore hw sq (4 : Int32) (7 : Int32) F2_sq F3_sq) hn9 C.hZ (hw _ (List.mem_of_getElem? (i := 32) rfl)) (hw _ (List.mem_of_getElem? (i := 2) rfl)) (by decide) (by decide)) (k' := 5) (n' := 25) rfl rfl (by decide) (by decide) ?_
  rintro _ _ ⟨rfl, rfl⟩
  show Go w l _ n0 _ h178 5 25 319 #[.val (.int p0), .val (.int p1), .val (.int p2), .val (.int p3), .val (.int (2 : Int32)), .val (.int (0 : Int32)), .val (.int (1 : Int32)), .val (.int (0 : Int32)), .val (.int (2 : Int32)), .val (.int (3 : Int32)), .val (.int (5 : Int32)), .val (.int (7 : Int32)), .val (.ref b168), .val (.int (7 : Int32)), .val (.ref b175), .val (.int (1 : Int32)), .val (.ref sq)] [(.int (1 : Int32))]
  refine g_iload C at_319 (pc' := 321) rfl rfl ?_
  refine g_iconst C (z := (1 : Int32)) at_321 (pc' := 322) rfl rfl ?_
  refine g_icmp_le C at_322 (by decide) (pc' := 329) (by decide) (pcN := 325) rfl (fun q => absurd q (by decide)) (fun _ => ?_)
  refine g_iconst C (z := (1 : Int32)) at_325 (pc' := 326) rfl rfl ?_
  refine g_goto C at_326 (by decide) (pc' := 330) (by decide) ?_
  refine g_icmp_ne C at_330 (by decide) (pc' := 337) (by decide) (pcN := 333) rfl (fun q => absurd rfl q) (fun _ => ?_)
  refine g_iconst C (z := (1 : Int32)) at_333 (pc' := 334) rfl rfl ?_
  refine g_goto C at_334 (by decide) (pc' := 338) (by decide) ?_
  refine g_istore C at_338 (pc' := 340) rfl (Ls' := #[.val (.int p0), .val (.int p1), .val (.int p2), .val (.int p3), .val (.int (2 : Int32)), .val (.int (0 : Int32)), .val (.int (1 : Int32)), .val (.int (0 : Int32)), .val (.int (2 : Int32)), .val (.int (3 : Int32)), .val (.int (5 : Int32)), .val (.int (7 : Int32)), .val (.ref b168), .val (.int (7 : Int32)), .val (.ref b175), .val (.int (1 : Int32)), .val (.ref sq)]) rfl ?_
  refine g_iload C at_340 (pc' := 342) rfl rfl ?_
  refine g_iconst C (z := (1 : Int32)) at_342 (pc' := 343) rfl rfl ?_
  refine g_icmp_le C at_343 (by decide) (pc' := 373) (by decide) (pcN := 346) rfl (fun q => absurd q (by decide)) (fun _ => ?_)
  refine g_aload C at_346 (pc' := 348) rfl rfl rfl ?_
  refine g_iload C at_348 (pc' := 350) rfl rfl ?_
  refine g_static (rm := R_m_read1) C (y := (⟨"com/example/sigillum/sigillum/codec/DerReaderHasMorePinLaw", "read", "(Lcom/example/sigillum/sigillum/codec/DerReader;Z)V"⟩ : MethodName)) (hw _ (List.mem_of_getElem? (i := 58) rfl)) (hw _ (List.mem_of_getElem? (i := 59) rfl)) (hw _ (List.mem_of_getElem? (i := 56) rfl)) (hw _ (List.mem_of_getElem? (i := 60) rfl)) (by decide) at_350 (pc' := 353) rfl (argsL := [(.ref sq), (.int (1 : Int32))]) (rest := []) (lenOf pd_13 rfl) rfl (W := 0) (Nat.le_of_eq rfl) rfl (fun hn9 => Met.back (rm := R_m_read1) (m_read1 hw sq t_b175 t_OCTET_STRING (4 : Int32) (7 : Int32) (7 : Int32) (4 : Int32) (1 : Int32) (1 : Int32) (4 : Int32) (6 : Int32) (upd (upd (upd (upd (upd (upd (upd (fun _ => (.int 0)) 0 (.int (48 : Int32))) 1 (.int (5 : Int32))) 2 (.int (5 : Int32))) 3 (.int (0 : Int32))) 4 (.int (4 : Int32))) 5 (.int (1 : Int32))) 6 (.int (nar .byte (p2.toInt8.toInt32)))) ⟨E_sq, F1_sq, F2_sq, F3_sq⟩ At_b175 E_OCTET_STRING F_OCTET_STRING gsq ne_t_b175_sq (by decide) (by decide) (by decide) rfl (by decide) (by decide) (by decide) (by decide) rfl (by decide) (by decide) (by decide) (by decide) (7 : Int32) (1 : Int32) (by decide) (by decide) (by decide) (by decide) (by decide) (by decide) (by decide) (by decide) (by decide) (by decide) (by decide) (S_OCTET_STRING.ext X.2)) hn9 C.hZ (hw _ (List.mem_of_getElem? (i := 60) rfl)) (hw _ (List.mem_of_getElem? (i := 56) rfl)) (by decide) (by decide)) (k' := 6) (n' := 28) rfl rfl (by decide) (by decide) ?_
  rintro _ h179 ⟨rfl, Kr, ⟨E_sq, F1_sq, F2_sq, F3_sq⟩⟩
  have X := X.keep Kr (allS gsq all0)
  have E_SEQUENCE := E_SEQUENCE.keep Kr
  have F_SEQUENCE := F_SEQUENCE.keep Kr (ninS ne_t_SEQUENCE_sq nin0)
  have E_NULL := E_NULL.keep Kr
  have F_NULL := F_NULL.keep Kr (ninS ne_t_NULL_sq nin0)
  have E_OCTET_STRING := E_OCTET_STRING.keep Kr
  have F_OCTET_STRING := F_OCTET_STRING.keep Kr (ninS ne_t_OCTET_STRING_sq nin0)
  have A168 := A168.keep Kr (ninS ne_b168_sq nin0)
  have At_b175 := At_b175.keep Kr (ninS ne_t_b175_sq nin0)
  have E_b175 := E_b175.keep Kr
  show Go w l _ n0 _ h179 6 28 353 #[.val (.int p0), .val (.int p1), .val (.int p2), .val (.int p3), .val (.int (2 : Int32)), .val (.int (0 : Int32)), .val (.int (1 : Int32)), .val (.int (0 : Int32)), .val (.int (2 : Int32)), .val (.int (3 : Int32)), .val (.int (5 : Int32)), .val (.int (7 : Int32)), .val (.ref b168), .val (.int (7 : Int32)), .val (.ref b175), .val (.int (1 : Int32)), .val (.ref sq)] []
  refine g_iload C at_353 (pc' := 355) rfl rfl ?_
  refine g_if_eq C at_355 (by decide) (pc' := 370) (by decide) (pcN := 358) rfl (fun q => absurd q (by decide)) (fun _ => ?_)
  refine g_aload C at_358 (pc' := 360) rfl rfl rfl ?_
  refine g_virtual (rm := R_m_hasMore) (a := sq) C (y := (⟨"com/example/sigillum/sigillum/codec/DerReader", "hasMore", "()Z"⟩ : MethodName)) (y' := (⟨"com/example/sigillum/sigillum/codec/DerReader", "hasMore", "()Z"⟩ : MethodName)) (hw _ (List.mem_of_getElem? (i := 28) rfl)) (hw _ (List.mem_of_getElem? (i := 29) rfl)) (g_nf C (hw _ (List.mem_of_getElem? (i := 31) rfl))) (hw _ (List.mem_of_getElem? (i := 31) rfl)) (hw _ (List.mem_of_getElem? (i := 30) rfl)) (by decide) E_sq at_360 (pc' := 363) rfl (argsL := []) (rest := []) (lenOf pd_1 rfl) rfl (W := 0) (Nat.le_of_eq rfl) rfl (fun hn9 => Met.back (rm := R_m_hasMore) (m_hasMore hw sq (7 : Int32) (7 : Int32) F2_sq F3_sq) hn9 C.hZ (hw _ (List.mem_of_getElem? (i := 32) rfl)) (hw _ (List.mem_of_getElem? (i := 2) rfl)) (by decide) (by decide)) (k' := 6) (n' := 28) rfl rfl (by decide) (by decide) ?_
  rintro _ _ ⟨rfl, rfl⟩
  show Go w l _ n0 _ h179 6 28 363 #[.val (.int p0), .val (.int p1), .val (.int p2), .val (.int p3), .val (.int (2 : Int32)), .val (.int (0 : Int32)), .val (.int (1 : Int32)), .val (.int (0 : Int32)), .val (.int (2 : Int32)), .val (.int (3 : Int32)), .val (.int (5 : Int32)), .val (.int (7 : Int32)), .val (.ref b168), .val (.int (7 : Int32)), .val (.ref b175), .val (.int (1 : Int32)), .val (.ref sq)] [(.int (0 : Int32))]
  refine g_if_ne C at_363 (by decide) (pc' := 370) (by decide) (pcN := 366) rfl (fun q => absurd rfl q) (fun _ => ?_)
  refine g_iconst C (z := (1 : Int32)) at_366 (pc' := 367) rfl rfl ?_
  refine g_goto C at_367 (by decide) (pc' := 371) (by decide) ?_
  refine g_istore C at_371 (pc' := 373) rfl (Ls' := #[.val (.int p0), .val (.int p1), .val (.int p2), .val (.int p3), .val (.int (2 : Int32)), .val (.int (0 : Int32)), .val (.int (1 : Int32)), .val (.int (0 : Int32)), .val (.int (2 : Int32)), .val (.int (3 : Int32)), .val (.int (5 : Int32)), .val (.int (7 : Int32)), .val (.ref b168), .val (.int (7 : Int32)), .val (.ref b175), .val (.int (1 : Int32)), .val (.ref sq)]) rfl ?_
  refine g_iload C at_373 (pc' := 375) rfl rfl ?_
  exact g_retN C (t := .boolean) rfl (by simp) at_375 rfl (by decide) (by decide)
set_option maxRecDepth 65536 in
set_option maxHeartbeats 40000000 in
theorem seg82_2011 {l : Launch} {Z : State} {a0 : Array Value} (hw : ∀ d ∈ tables_1, d.before a0 Z = true) {w : Wk} {n0 : Nat} {h0 : Heap} {Y : State → Outcome → Prop} (p0 p1 p2 p3 : Int32) (t_SEQUENCE t_NULL t_OCTET_STRING : Addr) (C : Cx w Z "com/example/sigillum/sigillum/codec/DerReaderHasMorePinLaw" code 17 (some .boolean) "law" room_1 n0 (fun v _ => v = some (.int 1)) Y) (X : Old Z n0 h0) (S_SEQUENCE : Sta Z Z.heap "com/example/sigillum/sigillum/codec/DerTag" "SEQUENCE" "Lcom/example/sigillum/sigillum/codec/DerTag;" (.ref t_SEQUENCE)) (E_SEQUENCE : Exa Z h0 t_SEQUENCE "com/example/sigillum/sigillum/codec/DerTag") (F_SEQUENCE : Fld Z h0 t_SEQUENCE "com/example/sigillum/sigillum/codec/DerTag" "identifier" "I" (.int 48)) (S_NULL : Sta Z Z.heap "com/example/sigillum/sigillum/codec/DerTag" "NULL" "Lcom/example/sigillum/sigillum/codec/DerTag;" (.ref t_NULL)) (E_NULL : Exa Z h0 t_NULL "com/example/sigillum/sigillum/codec/DerTag") (F_NULL : Fld Z h0 t_NULL "com/example/sigillum/sigillum/codec/DerTag" "identifier" "I" (.int 5)) (S_OCTET_STRING : Sta Z Z.heap "com/example/sigillum/sigillum/codec/DerTag" "OCTET_STRING" "Lcom/example/sigillum/sigillum/codec/DerTag;" (.ref t_OCTET_STRING)) (E_OCTET_STRING : Exa Z h0 t_OCTET_STRING "com/example/sigillum/sigillum/codec/DerTag") (F_OCTET_STRING : Fld Z h0 t_OCTET_STRING "com/example/sigillum/sigillum/codec/DerTag" "identifier" "I" (.int 4)) :
    Go w l room_1 n0 Y h0 0 0 82 #[.val (.int p0), .val (.int p1), .val (.int p2), .val (.int p3), .val (.int (2 : Int32)), .val (.int (0 : Int32)), .val (.int (1 : Int32)), .val (.int (1 : Int32)), .unset, .unset, .unset, .unset, .unset, .unset, .unset, .unset, .unset] [] := by
  refine g_iload C at_82 (pc' := 84) rfl rfl ?_
  refine g_if_le C at_84 (by decide) (pc' := 100) (by decide) (pcN := 87) rfl (fun q => absurd q (by decide)) (fun _ => ?_)
  refine g_iload C at_87 (pc' := 89) rfl rfl ?_
  refine g_if_eq C at_89 (by decide) (pc' := 96) (by decide) (pcN := 92) rfl (fun _ => ?_) (fun q => absurd rfl q)
  refine g_iconst C (z := (2 : Int32)) at_96 (pc' := 97) rfl rfl ?_
  refine g_goto C at_97 (by decide) (pc' := 101) (by decide) ?_
  refine g_istore C at_101 (pc' := 103) rfl (Ls' := #[.val (.int p0), .val (.int p1), .val (.int p2), .val (.int p3), .val (.int (2 : Int32)), .val (.int (0 : Int32)), .val (.int (1 : Int32)), .val (.int (1 : Int32)), .val (.int (2 : Int32)), .unset, .unset, .unset, .unset, .unset, .unset, .unset, .unset]) rfl ?_
  refine g_iload C at_103 (pc' := 105) rfl rfl ?_
  refine g_iconst C (z := (1 : Int32)) at_105 (pc' := 106) rfl rfl ?_
  refine g_icmp_le C at_106 (by decide) (pc' := 122) (by decide) (pcN := 109) rfl (fun q => absurd q (by decide)) (fun _ => ?_)
  refine g_iload C at_109 (pc' := 111) rfl rfl ?_
  refine g_if_eq C at_111 (by decide) (pc' := 118) (by decide) (pcN := 114) rfl (fun q => absurd q (by decide)) (fun _ => ?_)
  refine g_iconst C (z := (3 : Int32)) at_114 (pc' := 115) rfl rfl ?_
  refine g_goto C at_115 (by decide) (pc' := 123) (by decide) ?_
  refine g_istore C at_123 (pc' := 125) rfl (Ls' := #[.val (.int p0), .val (.int p1), .val (.int p2), .val (.int p3), .val (.int (2 : Int32)), .val (.int (0 : Int32)), .val (.int (1 : Int32)), .val (.int (1 : Int32)), .val (.int (2 : Int32)), .val (.int (3 : Int32)), .unset, .unset, .unset, .unset, .unset, .unset, .unset]) rfl ?_
  refine g_iload C at_125 (pc' := 127) rfl rfl ?_
  refine g_iload C at_127 (pc' := 129) rfl rfl ?_
  refine g_iadd C at_129 (pc' := 130) rfl ?_
  show Go w l _ n0 _ h0 0 0 130 #[.val (.int p0), .val (.int p1), .val (.int p2), .val (.int p3), .val (.int (2 : Int32)), .val (.int (0 : Int32)), .val (.int (1 : Int32)), .val (.int (1 : Int32)), .val (.int (2 : Int32)), .val (.int (3 : Int32)), .unset, .unset, .unset, .unset, .unset, .unset, .unset] [(.int (5 : Int32))]
  refine g_istore C at_130 (pc' := 132) rfl (Ls' := #[.val (.int p0), .val (.int p1), .val (.int p2), .val (.int p3), .val (.int (2 : Int32)), .val (.int (0 : Int32)), .val (.int (1 : Int32)), .val (.int (1 : Int32)), .val (.int (2 : Int32)), .val (.int (3 : Int32)), .val (.int (5 : Int32)), .unset, .unset, .unset, .unset, .unset, .unset]) rfl ?_
  refine g_iconst C (z := (2 : Int32)) at_132 (pc' := 133) rfl rfl ?_
  refine g_iload C at_133 (pc' := 135) rfl rfl ?_
  refine g_iadd C at_135 (pc' := 136) rfl ?_
  show Go w l _ n0 _ h0 0 0 136 #[.val (.int p0), .val (.int p1), .val (.int p2), .val (.int p3), .val (.int (2 : Int32)), .val (.int (0 : Int32)), .val (.int (1 : Int32)), .val (.int (1 : Int32)), .val (.int (2 : Int32)), .val (.int (3 : Int32)), .val (.int (5 : Int32)), .unset, .unset, .unset, .unset, .unset, .unset] [(.int (7 : Int32))]
  refine g_iload C at_136 (pc' := 138) rfl rfl ?_
  refine g_if_eq C at_138 (by decide) (pc' := 145) (by decide) (pcN := 141) rfl (fun q => absurd q (by decide)) (fun _ => ?_)
  refine g_iconst C (z := (1 : Int32)) at_141 (pc' := 142) rfl rfl ?_
  refine g_goto C at_142 (by decide) (pc' := 146) (by decide) ?_
  refine g_iadd C at_146 (pc' := 147) rfl ?_
  show Go w l _ n0 _ h0 0 0 147 #[.val (.int p0), .val (.int p1), .val (.int p2), .val (.int p3), .val (.int (2 : Int32)), .val (.int (0 : Int32)), .val (.int (1 : Int32)), .val (.int (1 : Int32)), .val (.int (2 : Int32)), .val (.int (3 : Int32)), .val (.int (5 : Int32)), .unset, .unset, .unset, .unset, .unset, .unset] [(.int (8 : Int32))]
  refine g_istore C at_147 (pc' := 149) rfl (Ls' := #[.val (.int p0), .val (.int p1), .val (.int p2), .val (.int p3), .val (.int (2 : Int32)), .val (.int (0 : Int32)), .val (.int (1 : Int32)), .val (.int (1 : Int32)), .val (.int (2 : Int32)), .val (.int (3 : Int32)), .val (.int (5 : Int32)), .val (.int (8 : Int32)), .unset, .unset, .unset, .unset, .unset]) rfl ?_
  refine g_iload C at_149 (pc' := 151) rfl rfl ?_
  refine g_newarr C (ad := "[B") (cap := 8) (hw _ (List.mem_of_getElem? (i := 3) rfl)) at_151 (pc' := 153) rfl rfl (by decide) (by decide) (by decide) (k' := 1) (n' := 8) rfl rfl (by decide) (by decide) rfl ?_
  intro h180 b180 E180 fb180 gb180 A180
  have ne_t_SEQUENCE_b180 : t_SEQUENCE ≠ b180 := Nat.ne_of_lt (Nat.lt_of_lt_of_le E_SEQUENCE.lt fb180)
  have ne_t_NULL_b180 : t_NULL ≠ b180 := Nat.ne_of_lt (Nat.lt_of_lt_of_le E_NULL.lt fb180)
  have ne_t_OCTET_STRING_b180 : t_OCTET_STRING ≠ b180 := Nat.ne_of_lt (Nat.lt_of_lt_of_le E_OCTET_STRING.lt fb180)
  have X := X.ext E180
  have E_SEQUENCE := E_SEQUENCE.ext E180
  have F_SEQUENCE := F_SEQUENCE.ext E180
  have E_NULL := E_NULL.ext E180
  have F_NULL := F_NULL.ext E180
  have E_OCTET_STRING := E_OCTET_STRING.ext E180
  have F_OCTET_STRING := F_OCTET_STRING.ext E180
  have A180 : Arf Z h180 b180 "[B" .byte (8 : Int32) (fun _ => (.int 0)) := A180
  refine g_astore C at_153 (pc' := 155) rfl rfl (Ls' := #[.val (.int p0), .val (.int p1), .val (.int p2), .val (.int p3), .val (.int (2 : Int32)), .val (.int (0 : Int32)), .val (.int (1 : Int32)), .val (.int (1 : Int32)), .val (.int (2 : Int32)), .val (.int (3 : Int32)), .val (.int (5 : Int32)), .val (.int (8 : Int32)), .val (.ref b180), .unset, .unset, .unset, .unset]) rfl ?_
  refine g_aload C at_155 (pc' := 157) rfl rfl rfl ?_
  refine g_iconst C (z := (0 : Int32)) at_157 (pc' := 158) rfl rfl ?_
  refine g_bipush C (z := (48 : Int32)) at_158 (pc' := 160) rfl rfl ?_
  refine g_bastore C A180 (by decide) (by decide) at_160 (pc' := 161) rfl gb180 (fun h181 W182 A180' => ?_)
  have X := X.wr W182 gb180
  have E_SEQUENCE := E_SEQUENCE.wr W182
  have F_SEQUENCE := F_SEQUENCE.other W182 (Or.inl ne_t_SEQUENCE_b180)
  have E_NULL := E_NULL.wr W182
  have F_NULL := F_NULL.other W182 (Or.inl ne_t_NULL_b180)
  have E_OCTET_STRING := E_OCTET_STRING.wr W182
  have F_OCTET_STRING := F_OCTET_STRING.other W182 (Or.inl ne_t_OCTET_STRING_b180)
  have A180 : Arf Z h181 b180 "[B" .byte (8 : Int32) (upd (fun _ => (.int 0)) 0 (.int (48 : Int32))) := A180'
  refine g_aload C at_161 (pc' := 163) rfl rfl rfl ?_
  refine g_iconst C (z := (1 : Int32)) at_163 (pc' := 164) rfl rfl ?_
  refine g_iload C at_164 (pc' := 166) rfl rfl ?_
  refine g_i2b C at_166 (pc' := 167) rfl ?_
  show Go w l _ n0 _ h181 1 8 167 #[.val (.int p0), .val (.int p1), .val (.int p2), .val (.int p3), .val (.int (2 : Int32)), .val (.int (0 : Int32)), .val (.int (1 : Int32)), .val (.int (1 : Int32)), .val (.int (2 : Int32)), .val (.int (3 : Int32)), .val (.int (5 : Int32)), .val (.int (8 : Int32)), .val (.ref b180), .unset, .unset, .unset, .unset] [(.int (5 : Int32)), (.int (1 : Int32)), (.ref b180)]
  refine g_bastore C A180 (by decide) (by decide) at_167 (pc' := 168) rfl gb180 (fun h183 W184 A180' => ?_)
  have X := X.wr W184 gb180
  have E_SEQUENCE := E_SEQUENCE.wr W184
  have F_SEQUENCE := F_SEQUENCE.other W184 (Or.inl ne_t_SEQUENCE_b180)
  have E_NULL := E_NULL.wr W184
  have F_NULL := F_NULL.other W184 (Or.inl ne_t_NULL_b180)
  have E_OCTET_STRING := E_OCTET_STRING.wr W184
  have F_OCTET_STRING := F_OCTET_STRING.other W184 (Or.inl ne_t_OCTET_STRING_b180)
  have A180 : Arf Z h183 b180 "[B" .byte (8 : Int32) (upd (upd (fun _ => (.int 0)) 0 (.int (48 : Int32))) 1 (.int (5 : Int32))) := A180'
  refine g_iconst C (z := (2 : Int32)) at_168 (pc' := 169) rfl rfl ?_
  refine g_istore C at_169 (pc' := 171) rfl (Ls' := #[.val (.int p0), .val (.int p1), .val (.int p2), .val (.int p3), .val (.int (2 : Int32)), .val (.int (0 : Int32)), .val (.int (1 : Int32)), .val (.int (1 : Int32)), .val (.int (2 : Int32)), .val (.int (3 : Int32)), .val (.int (5 : Int32)), .val (.int (8 : Int32)), .val (.ref b180), .val (.int (2 : Int32)), .unset, .unset, .unset]) rfl ?_
  refine g_iload C at_171 (pc' := 173) rfl rfl ?_
  refine g_if_le C at_173 (by decide) (pc' := 189) (by decide) (pcN := 176) rfl (fun q => absurd q (by decide)) (fun _ => ?_)
  refine g_aload C at_176 (pc' := 178) rfl rfl rfl ?_
  refine g_iload C at_178 (pc' := 180) rfl rfl ?_
  refine g_iload C at_180 (pc' := 182) rfl rfl ?_
  refine g_iloadN C at_182 (pc' := 183) rfl rfl ?_
  refine g_i2b C at_183 (pc' := 184) rfl ?_
  refine g_static (rm := R_m_put0) C (y := (⟨"com/example/sigillum/sigillum/codec/DerReaderHasMorePinLaw", "put", "([BIZB)I"⟩ : MethodName)) (hw _ (List.mem_of_getElem? (i := 54) rfl)) (hw _ (List.mem_of_getElem? (i := 55) rfl)) (hw _ (List.mem_of_getElem? (i := 56) rfl)) (hw _ (List.mem_of_getElem? (i := 57) rfl)) (by decide) at_184 (pc' := 187) rfl (argsL := [(.ref b180), (.int (2 : Int32)), (.int (0 : Int32)), (.int (p1.toInt8.toInt32))]) (rest := []) (lenOf pd_12 rfl) rfl (W := 0) (Nat.le_of_eq rfl) rfl (fun hn9 => Met.back (rm := R_m_put0) (m_put0 hw b180 (2 : Int32) (p1.toInt8.toInt32) (8 : Int32) (upd (upd (fun _ => (.int 0)) 0 (.int (48 : Int32))) 1 (.int (5 : Int32))) A180 gb180 (by decide) (by decide) (by decide) (by decide)) hn9 C.hZ (hw _ (List.mem_of_getElem? (i := 57) rfl)) (hw _ (List.mem_of_getElem? (i := 56) rfl)) (by decide) (by decide)) (k' := 1) (n' := 8) rfl rfl (by decide) (by decide) ?_
  rintro _ h185 ⟨rfl, Kp, Ap⟩
  have X := X.keep Kp (allS gb180 all0)
  have E_SEQUENCE := E_SEQUENCE.keep Kp
  have F_SEQUENCE := F_SEQUENCE.keep Kp (ninS ne_t_SEQUENCE_b180 nin0)
  have E_NULL := E_NULL.keep Kp
  have F_NULL := F_NULL.keep Kp (ninS ne_t_NULL_b180 nin0)
  have E_OCTET_STRING := E_OCTET_STRING.keep Kp
  have F_OCTET_STRING := F_OCTET_STRING.keep Kp (ninS ne_t_OCTET_STRING_b180 nin0)
  have A180 : Arf Z h185 b180 "[B" .byte (8 : Int32) (upd (upd (upd (upd (fun _ => (.int 0)) 0 (.int (48 : Int32))) 1 (.int (5 : Int32))) 2 (.int (5 : Int32))) 3 (.int (0 : Int32))) := Ap
  show Go w l _ n0 _ h185 1 8 187 #[.val (.int p0), .val (.int p1), .val (.int p2), .val (.int p3), .val (.int (2 : Int32)), .val (.int (0 : Int32)), .val (.int (1 : Int32)), .val (.int (1 : Int32)), .val (.int (2 : Int32)), .val (.int (3 : Int32)), .val (.int (5 : Int32)), .val (.int (8 : Int32)), .val (.ref b180), .val (.int (2 : Int32)), .unset, .unset, .unset] [(.int (4 : Int32))]
  refine g_istore C at_187 (pc' := 189) rfl (Ls' := #[.val (.int p0), .val (.int p1), .val (.int p2), .val (.int p3), .val (.int (2 : Int32)), .val (.int (0 : Int32)), .val (.int (1 : Int32)), .val (.int (1 : Int32)), .val (.int (2 : Int32)), .val (.int (3 : Int32)), .val (.int (5 : Int32)), .val (.int (8 : Int32)), .val (.ref b180), .val (.int (4 : Int32)), .unset, .unset, .unset]) rfl ?_
  refine g_iload C at_189 (pc' := 191) rfl rfl ?_
  refine g_iconst C (z := (1 : Int32)) at_191 (pc' := 192) rfl rfl ?_
  refine g_icmp_le C at_192 (by decide) (pc' := 208) (by decide) (pcN := 195) rfl (fun q => absurd q (by decide)) (fun _ => ?_)
  refine g_aload C at_195 (pc' := 197) rfl rfl rfl ?_
  refine g_iload C at_197 (pc' := 199) rfl rfl ?_
  refine g_iload C at_199 (pc' := 201) rfl rfl ?_
  refine g_iloadN C at_201 (pc' := 202) rfl rfl ?_
  refine g_i2b C at_202 (pc' := 203) rfl ?_
  refine g_static (rm := R_m_put1) C (y := (⟨"com/example/sigillum/sigillum/codec/DerReaderHasMorePinLaw", "put", "([BIZB)I"⟩ : MethodName)) (hw _ (List.mem_of_getElem? (i := 54) rfl)) (hw _ (List.mem_of_getElem? (i := 55) rfl)) (hw _ (List.mem_of_getElem? (i := 56) rfl)) (hw _ (List.mem_of_getElem? (i := 57) rfl)) (by decide) at_203 (pc' := 206) rfl (argsL := [(.ref b180), (.int (4 : Int32)), (.int (1 : Int32)), (.int (p2.toInt8.toInt32))]) (rest := []) (lenOf pd_12 rfl) rfl (W := 0) (Nat.le_of_eq rfl) rfl (fun hn9 => Met.back (rm := R_m_put1) (m_put1 hw b180 (4 : Int32) (p2.toInt8.toInt32) (8 : Int32) (upd (upd (upd (upd (fun _ => (.int 0)) 0 (.int (48 : Int32))) 1 (.int (5 : Int32))) 2 (.int (5 : Int32))) 3 (.int (0 : Int32))) A180 gb180 (by decide) (by decide) (by decide) (by decide) (by decide) (by decide)) hn9 C.hZ (hw _ (List.mem_of_getElem? (i := 57) rfl)) (hw _ (List.mem_of_getElem? (i := 56) rfl)) (by decide) (by decide)) (k' := 1) (n' := 8) rfl rfl (by decide) (by decide) ?_
  rintro _ h186 ⟨rfl, Kp, Ap⟩
  have X := X.keep Kp (allS gb180 all0)
  have E_SEQUENCE := E_SEQUENCE.keep Kp
  have F_SEQUENCE := F_SEQUENCE.keep Kp (ninS ne_t_SEQUENCE_b180 nin0)
  have E_NULL := E_NULL.keep Kp
  have F_NULL := F_NULL.keep Kp (ninS ne_t_NULL_b180 nin0)
  have E_OCTET_STRING := E_OCTET_STRING.keep Kp
  have F_OCTET_STRING := F_OCTET_STRING.keep Kp (ninS ne_t_OCTET_STRING_b180 nin0)
  have A180 : Arf Z h186 b180 "[B" .byte (8 : Int32) (upd (upd (upd (upd (upd (upd (upd (fun _ => (.int 0)) 0 (.int (48 : Int32))) 1 (.int (5 : Int32))) 2 (.int (5 : Int32))) 3 (.int (0 : Int32))) 4 (.int (4 : Int32))) 5 (.int (1 : Int32))) 6 (.int (nar .byte (p2.toInt8.toInt32)))) := Ap
  show Go w l _ n0 _ h186 1 8 206 #[.val (.int p0), .val (.int p1), .val (.int p2), .val (.int p3), .val (.int (2 : Int32)), .val (.int (0 : Int32)), .val (.int (1 : Int32)), .val (.int (1 : Int32)), .val (.int (2 : Int32)), .val (.int (3 : Int32)), .val (.int (5 : Int32)), .val (.int (8 : Int32)), .val (.ref b180), .val (.int (4 : Int32)), .unset, .unset, .unset] [(.int (7 : Int32))]
  refine g_istore C at_206 (pc' := 208) rfl (Ls' := #[.val (.int p0), .val (.int p1), .val (.int p2), .val (.int p3), .val (.int (2 : Int32)), .val (.int (0 : Int32)), .val (.int (1 : Int32)), .val (.int (1 : Int32)), .val (.int (2 : Int32)), .val (.int (3 : Int32)), .val (.int (5 : Int32)), .val (.int (8 : Int32)), .val (.ref b180), .val (.int (7 : Int32)), .unset, .unset, .unset]) rfl ?_
  refine g_iload C at_208 (pc' := 210) rfl rfl ?_
  refine g_if_eq C at_210 (by decide) (pc' := 220) (by decide) (pcN := 213) rfl (fun q => absurd q (by decide)) (fun _ => ?_)
  refine g_aload C at_213 (pc' := 215) rfl rfl rfl ?_
  refine g_iload C at_215 (pc' := 217) rfl rfl ?_
  refine g_iloadN C at_217 (pc' := 218) rfl rfl ?_
  refine g_i2b C at_218 (pc' := 219) rfl ?_
  refine g_bastore C A180 (by decide) (by decide) at_219 (pc' := 220) rfl gb180 (fun h187 W188 A180' => ?_)
  have X := X.wr W188 gb180
  have E_SEQUENCE := E_SEQUENCE.wr W188
  have F_SEQUENCE := F_SEQUENCE.other W188 (Or.inl ne_t_SEQUENCE_b180)
  have E_NULL := E_NULL.wr W188
  have F_NULL := F_NULL.other W188 (Or.inl ne_t_NULL_b180)
  have E_OCTET_STRING := E_OCTET_STRING.wr W188
  have F_OCTET_STRING := F_OCTET_STRING.other W188 (Or.inl ne_t_OCTET_STRING_b180)
  have A180 : Arf Z h187 b180 "[B" .byte (8 : Int32) (upd (upd (upd (upd (upd (upd (upd (upd (fun _ => (.int 0)) 0 (.int (48 : Int32))) 1 (.int (5 : Int32))) 2 (.int (5 : Int32))) 3 (.int (0 : Int32))) 4 (.int (4 : Int32))) 5 (.int (1 : Int32))) 6 (.int (nar .byte (p2.toInt8.toInt32)))) 7 (.int (nar .byte (p3.toInt8.toInt32)))) := A180'
  refine g_new C (hw _ (List.mem_of_getElem? (i := 0) rfl)) (hw _ (List.mem_of_getElem? (i := 1) rfl)) (hw _ (List.mem_of_getElem? (i := 2) rfl)) at_220 (pc' := 223) rfl (k' := 2) (n' := 11) rfl rfl (by decide) (by decide) ?_
  intro h189 b189 E189 fb189 gb189 A189 D189
  have ne_t_SEQUENCE_b189 : t_SEQUENCE ≠ b189 := Nat.ne_of_lt (Nat.lt_of_lt_of_le E_SEQUENCE.lt fb189)
  have ne_t_NULL_b189 : t_NULL ≠ b189 := Nat.ne_of_lt (Nat.lt_of_lt_of_le E_NULL.lt fb189)
  have ne_t_OCTET_STRING_b189 : t_OCTET_STRING ≠ b189 := Nat.ne_of_lt (Nat.lt_of_lt_of_le E_OCTET_STRING.lt fb189)
  have ne_b180_b189 : b180 ≠ b189 := Nat.ne_of_lt (Nat.lt_of_lt_of_le A180.lt fb189)
  have X := X.ext E189
  have E_SEQUENCE := E_SEQUENCE.ext E189
  have F_SEQUENCE := F_SEQUENCE.ext E189
  have E_NULL := E_NULL.ext E189
  have F_NULL := F_NULL.ext E189
  have E_OCTET_STRING := E_OCTET_STRING.ext E189
  have F_OCTET_STRING := F_OCTET_STRING.ext E189
  have A180 := A180.ext E189
  have F189_der : Fld Z h189 b189 "com/example/sigillum/sigillum/codec/DerReader" "der" "[B" .null := D189 (Or.inr (hw _ (List.mem_of_getElem? (i := 23) rfl))) (ty := (.array .byte)) (by decide)
  have F189_position : Fld Z h189 b189 "com/example/sigillum/sigillum/codec/DerReader" "position" "I" (.int (0 : Int32)) := D189 (Or.inl (hw _ (List.mem_of_getElem? (i := 25) rfl))) (ty := .int) (by decide)
  have F189_end : Fld Z h189 b189 "com/example/sigillum/sigillum/codec/DerReader" "end" "I" (.int (0 : Int32)) := D189 (Or.inr (hw _ (List.mem_of_getElem? (i := 27) rfl))) (ty := .int) (by decide)
  refine g_dup C at_223 (pc' := 224) rfl rfl ?_
  refine g_aload C at_224 (pc' := 226) rfl rfl rfl ?_
  refine g_special (rm := R_m_init1) (a := b189) C (y := (⟨"com/example/sigillum/sigillum/codec/DerReader", "<init>", "([B)V"⟩ : MethodName)) rfl (hw _ (List.mem_of_getElem? (i := 4) rfl)) (hw _ (List.mem_of_getElem? (i := 5) rfl)) (hw _ (List.mem_of_getElem? (i := 6) rfl)) (by decide) at_226 (pc' := 229) rfl (argsL := [(.ref b180)]) (rest := [(.ref b189)]) (lenOf pd_10 rfl) rfl (W := 1) (Nat.le_of_eq rfl) rfl (fun hn9 => Met.back (rm := R_m_init1) (m_init1 hw b189 b180 (8 : Int32) (upd (upd (upd (upd (upd (upd (upd (upd (fun _ => (.int 0)) 0 (.int (48 : Int32))) 1 (.int (5 : Int32))) 2 (.int (5 : Int32))) 3 (.int (0 : Int32))) 4 (.int (4 : Int32))) 5 (.int (1 : Int32))) 6 (.int (nar .byte (p2.toInt8.toInt32)))) 7 (.int (nar .byte (p3.toInt8.toInt32)))) ⟨A189, F189_der, F189_position, F189_end⟩ A180 (by decide) gb189) hn9 C.hZ (hw _ (List.mem_of_getElem? (i := 6) rfl)) (hw _ (List.mem_of_getElem? (i := 2) rfl)) (by decide) (by decide)) (k' := 3) (n' := 20) rfl rfl (by decide) (by decide) ?_
  rintro _ h190 ⟨rfl, Ki, t_b189, ft_b189, gt_b189, ⟨E_b189, F1_b189, F2_b189, F3_b189⟩, At_b189⟩
  have ne_t_SEQUENCE_t_b189 : t_SEQUENCE ≠ t_b189 := Nat.ne_of_lt (Nat.lt_of_lt_of_le E_SEQUENCE.lt ft_b189)
  have ne_t_NULL_t_b189 : t_NULL ≠ t_b189 := Nat.ne_of_lt (Nat.lt_of_lt_of_le E_NULL.lt ft_b189)
  have ne_t_OCTET_STRING_t_b189 : t_OCTET_STRING ≠ t_b189 := Nat.ne_of_lt (Nat.lt_of_lt_of_le E_OCTET_STRING.lt ft_b189)
  have ne_b180_t_b189 : b180 ≠ t_b189 := Nat.ne_of_lt (Nat.lt_of_lt_of_le A180.lt ft_b189)
  have ne_b189_t_b189 : b189 ≠ t_b189 := Nat.ne_of_lt (Nat.lt_of_lt_of_le A189.lt ft_b189)
  have X := X.keep Ki (allS gb189 all0)
  have E_SEQUENCE := E_SEQUENCE.keep Ki
  have F_SEQUENCE := F_SEQUENCE.keep Ki (ninS ne_t_SEQUENCE_b189 nin0)
  have E_NULL := E_NULL.keep Ki
  have F_NULL := F_NULL.keep Ki (ninS ne_t_NULL_b189 nin0)
  have E_OCTET_STRING := E_OCTET_STRING.keep Ki
  have F_OCTET_STRING := F_OCTET_STRING.keep Ki (ninS ne_t_OCTET_STRING_b189 nin0)
  have A180 := A180.keep Ki (ninS ne_b180_b189 nin0)
  have A189 := A189.keep Ki
  show Go w l _ n0 _ h190 3 20 229 #[.val (.int p0), .val (.int p1), .val (.int p2), .val (.int p3), .val (.int (2 : Int32)), .val (.int (0 : Int32)), .val (.int (1 : Int32)), .val (.int (1 : Int32)), .val (.int (2 : Int32)), .val (.int (3 : Int32)), .val (.int (5 : Int32)), .val (.int (8 : Int32)), .val (.ref b180), .val (.int (7 : Int32)), .unset, .unset, .unset] [(.ref b189)]
  refine g_astore C at_229 (pc' := 231) rfl rfl (Ls' := #[.val (.int p0), .val (.int p1), .val (.int p2), .val (.int p3), .val (.int (2 : Int32)), .val (.int (0 : Int32)), .val (.int (1 : Int32)), .val (.int (1 : Int32)), .val (.int (2 : Int32)), .val (.int (3 : Int32)), .val (.int (5 : Int32)), .val (.int (8 : Int32)), .val (.ref b180), .val (.int (7 : Int32)), .val (.ref b189), .unset, .unset]) rfl ?_
  refine g_aload C at_231 (pc' := 233) rfl rfl rfl ?_
  refine g_virtual (rm := R_m_hasMore) (a := b189) C (y := (⟨"com/example/sigillum/sigillum/codec/DerReader", "hasMore", "()Z"⟩ : MethodName)) (y' := (⟨"com/example/sigillum/sigillum/codec/DerReader", "hasMore", "()Z"⟩ : MethodName)) (hw _ (List.mem_of_getElem? (i := 28) rfl)) (hw _ (List.mem_of_getElem? (i := 29) rfl)) (g_nf C (hw _ (List.mem_of_getElem? (i := 31) rfl))) (hw _ (List.mem_of_getElem? (i := 31) rfl)) (hw _ (List.mem_of_getElem? (i := 30) rfl)) (by decide) E_b189 at_233 (pc' := 236) rfl (argsL := []) (rest := []) (lenOf pd_1 rfl) rfl (W := 0) (Nat.le_of_eq rfl) rfl (fun hn9 => Met.back (rm := R_m_hasMore) (m_hasMore hw b189 (0 : Int32) (8 : Int32) F2_b189 F3_b189) hn9 C.hZ (hw _ (List.mem_of_getElem? (i := 32) rfl)) (hw _ (List.mem_of_getElem? (i := 2) rfl)) (by decide) (by decide)) (k' := 3) (n' := 20) rfl rfl (by decide) (by decide) ?_
  rintro _ _ ⟨rfl, rfl⟩
  show Go w l _ n0 _ h190 3 20 236 #[.val (.int p0), .val (.int p1), .val (.int p2), .val (.int p3), .val (.int (2 : Int32)), .val (.int (0 : Int32)), .val (.int (1 : Int32)), .val (.int (1 : Int32)), .val (.int (2 : Int32)), .val (.int (3 : Int32)), .val (.int (5 : Int32)), .val (.int (8 : Int32)), .val (.ref b180), .val (.int (7 : Int32)), .val (.ref b189), .unset, .unset] [(.int (1 : Int32))]
  refine g_istore C at_236 (pc' := 238) rfl (Ls' := #[.val (.int p0), .val (.int p1), .val (.int p2), .val (.int p3), .val (.int (2 : Int32)), .val (.int (0 : Int32)), .val (.int (1 : Int32)), .val (.int (1 : Int32)), .val (.int (2 : Int32)), .val (.int (3 : Int32)), .val (.int (5 : Int32)), .val (.int (8 : Int32)), .val (.ref b180), .val (.int (7 : Int32)), .val (.ref b189), .val (.int (1 : Int32)), .unset]) rfl ?_
  refine g_aload C at_238 (pc' := 240) rfl rfl rfl ?_
  refine g_virtual (rm := R_m_seq) (a := b189) C (y := (⟨"com/example/sigillum/sigillum/codec/DerReader", "sequence", "()Lcom/example/sigillum/sigillum/codec/DerReader;"⟩ : MethodName)) (y' := (⟨"com/example/sigillum/sigillum/codec/DerReader", "sequence", "()Lcom/example/sigillum/sigillum/codec/DerReader;"⟩ : MethodName)) (hw _ (List.mem_of_getElem? (i := 33) rfl)) (hw _ (List.mem_of_getElem? (i := 34) rfl)) (g_nf C (hw _ (List.mem_of_getElem? (i := 36) rfl))) (hw _ (List.mem_of_getElem? (i := 36) rfl)) (hw _ (List.mem_of_getElem? (i := 35) rfl)) (by decide) E_b189 at_240 (pc' := 243) rfl (argsL := []) (rest := []) (lenOf pd_11 rfl) rfl (W := 0) (Nat.le_of_eq rfl) rfl (fun hn9 => Met.back (rm := R_m_seq) (m_seq hw b189 t_b189 t_SEQUENCE (0 : Int32) (8 : Int32) (8 : Int32) (48 : Int32) (5 : Int32) (5 : Int32) (48 : Int32) (2 : Int32) (upd (upd (upd (upd (upd (upd (upd (upd (fun _ => (.int 0)) 0 (.int (48 : Int32))) 1 (.int (5 : Int32))) 2 (.int (5 : Int32))) 3 (.int (0 : Int32))) 4 (.int (4 : Int32))) 5 (.int (1 : Int32))) 6 (.int (nar .byte (p2.toInt8.toInt32)))) 7 (.int (nar .byte (p3.toInt8.toInt32)))) (7 : Int32) ⟨E_b189, F1_b189, F2_b189, F3_b189⟩ At_b189 E_SEQUENCE F_SEQUENCE gb189 (Ne.symm ne_b189_t_b189) (by decide) (by decide) (by decide) rfl (by decide) (by decide) (by decide) (by decide) rfl (by decide) (by decide) (by decide) (by decide) (by decide) (S_SEQUENCE.ext X.2)) hn9 C.hZ (hw _ (List.mem_of_getElem? (i := 37) rfl)) (hw _ (List.mem_of_getElem? (i := 2) rfl)) (by decide) (by decide)) (k' := 4) (n' := 23) rfl rfl (by decide) (by decide) ?_
  rintro _ h191 ⟨sq, rfl, fsq, gsq, Ks, ⟨E_b189, F1_b189, F2_b189, F3_b189⟩, ⟨E_sq, F1_sq, F2_sq, F3_sq⟩⟩
  have ne_t_SEQUENCE_sq : t_SEQUENCE ≠ sq := Nat.ne_of_lt (Nat.lt_of_lt_of_le E_SEQUENCE.lt fsq)
  have ne_t_NULL_sq : t_NULL ≠ sq := Nat.ne_of_lt (Nat.lt_of_lt_of_le E_NULL.lt fsq)
  have ne_t_OCTET_STRING_sq : t_OCTET_STRING ≠ sq := Nat.ne_of_lt (Nat.lt_of_lt_of_le E_OCTET_STRING.lt fsq)
  have ne_b180_sq : b180 ≠ sq := Nat.ne_of_lt (Nat.lt_of_lt_of_le A180.lt fsq)
  have ne_t_b189_sq : t_b189 ≠ sq := Nat.ne_of_lt (Nat.lt_of_lt_of_le At_b189.lt fsq)
  have X := X.keep Ks (allS gb189 all0)
  have E_SEQUENCE := E_SEQUENCE.keep Ks
  have F_SEQUENCE := F_SEQUENCE.keep Ks (ninS ne_t_SEQUENCE_b189 nin0)
  have E_NULL := E_NULL.keep Ks
  have F_NULL := F_NULL.keep Ks (ninS ne_t_NULL_b189 nin0)
  have E_OCTET_STRING := E_OCTET_STRING.keep Ks
  have F_OCTET_STRING := F_OCTET_STRING.keep Ks (ninS ne_t_OCTET_STRING_b189 nin0)
  have A180 := A180.keep Ks (ninS ne_b180_b189 nin0)
  have At_b189 := At_b189.keep Ks (ninS (Ne.symm ne_b189_t_b189) nin0)
  show Go w l _ n0 _ h191 4 23 243 #[.val (.int p0), .val (.int p1), .val (.int p2), .val (.int p3), .val (.int (2 : Int32)), .val (.int (0 : Int32)), .val (.int (1 : Int32)), .val (.int (1 : Int32)), .val (.int (2 : Int32)), .val (.int (3 : Int32)), .val (.int (5 : Int32)), .val (.int (8 : Int32)), .val (.ref b180), .val (.int (7 : Int32)), .val (.ref b189), .val (.int (1 : Int32)), .unset] [(.ref sq)]
  refine g_astore C at_243 (pc' := 245) rfl rfl (Ls' := #[.val (.int p0), .val (.int p1), .val (.int p2), .val (.int p3), .val (.int (2 : Int32)), .val (.int (0 : Int32)), .val (.int (1 : Int32)), .val (.int (1 : Int32)), .val (.int (2 : Int32)), .val (.int (3 : Int32)), .val (.int (5 : Int32)), .val (.int (8 : Int32)), .val (.ref b180), .val (.int (7 : Int32)), .val (.ref b189), .val (.int (1 : Int32)), .val (.ref sq)]) rfl ?_
  refine g_iload C at_245 (pc' := 247) rfl rfl ?_
  refine g_if_eq C at_247 (by decide) (pc' := 264) (by decide) (pcN := 250) rfl (fun q => absurd q (by decide)) (fun _ => ?_)
  refine g_aload C at_250 (pc' := 252) rfl rfl rfl ?_
  refine g_virtual (rm := R_m_hasMore) (a := b189) C (y := (⟨"com/example/sigillum/sigillum/codec/DerReader", "hasMore", "()Z"⟩ : MethodName)) (y' := (⟨"com/example/sigillum/sigillum/codec/DerReader", "hasMore", "()Z"⟩ : MethodName)) (hw _ (List.mem_of_getElem? (i := 28) rfl)) (hw _ (List.mem_of_getElem? (i := 29) rfl)) (g_nf C (hw _ (List.mem_of_getElem? (i := 31) rfl))) (hw _ (List.mem_of_getElem? (i := 31) rfl)) (hw _ (List.mem_of_getElem? (i := 30) rfl)) (by decide) E_b189 at_252 (pc' := 255) rfl (argsL := []) (rest := []) (lenOf pd_1 rfl) rfl (W := 0) (Nat.le_of_eq rfl) rfl (fun hn9 => Met.back (rm := R_m_hasMore) (m_hasMore hw b189 (7 : Int32) (8 : Int32) F2_b189 F3_b189) hn9 C.hZ (hw _ (List.mem_of_getElem? (i := 32) rfl)) (hw _ (List.mem_of_getElem? (i := 2) rfl)) (by decide) (by decide)) (k' := 4) (n' := 23) rfl rfl (by decide) (by decide) ?_
  rintro _ _ ⟨rfl, rfl⟩
  show Go w l _ n0 _ h191 4 23 255 #[.val (.int p0), .val (.int p1), .val (.int p2), .val (.int p3), .val (.int (2 : Int32)), .val (.int (0 : Int32)), .val (.int (1 : Int32)), .val (.int (1 : Int32)), .val (.int (2 : Int32)), .val (.int (3 : Int32)), .val (.int (5 : Int32)), .val (.int (8 : Int32)), .val (.ref b180), .val (.int (7 : Int32)), .val (.ref b189), .val (.int (1 : Int32)), .val (.ref sq)] [(.int (1 : Int32))]
  refine g_iload C at_255 (pc' := 257) rfl rfl ?_
  refine g_icmp_ne C at_257 (by decide) (pc' := 264) (by decide) (pcN := 260) rfl (fun q => absurd rfl q) (fun _ => ?_)
  refine g_iconst C (z := (1 : Int32)) at_260 (pc' := 261) rfl rfl ?_
  refine g_goto C at_261 (by decide) (pc' := 265) (by decide) ?_
  refine g_istore C at_265 (pc' := 267) rfl (Ls' := #[.val (.int p0), .val (.int p1), .val (.int p2), .val (.int p3), .val (.int (2 : Int32)), .val (.int (0 : Int32)), .val (.int (1 : Int32)), .val (.int (1 : Int32)), .val (.int (2 : Int32)), .val (.int (3 : Int32)), .val (.int (5 : Int32)), .val (.int (8 : Int32)), .val (.ref b180), .val (.int (7 : Int32)), .val (.ref b189), .val (.int (1 : Int32)), .val (.ref sq)]) rfl ?_
  refine g_iload C at_267 (pc' := 269) rfl rfl ?_
  refine g_if_eq C at_269 (by decide) (pc' := 294) (by decide) (pcN := 272) rfl (fun q => absurd q (by decide)) (fun _ => ?_)
  refine g_aload C at_272 (pc' := 274) rfl rfl rfl ?_
  refine g_virtual (rm := R_m_hasMore) (a := sq) C (y := (⟨"com/example/sigillum/sigillum/codec/DerReader", "hasMore", "()Z"⟩ : MethodName)) (y' := (⟨"com/example/sigillum/sigillum/codec/DerReader", "hasMore", "()Z"⟩ : MethodName)) (hw _ (List.mem_of_getElem? (i := 28) rfl)) (hw _ (List.mem_of_getElem? (i := 29) rfl)) (g_nf C (hw _ (List.mem_of_getElem? (i := 31) rfl))) (hw _ (List.mem_of_getElem? (i := 31) rfl)) (hw _ (List.mem_of_getElem? (i := 30) rfl)) (by decide) E_sq at_274 (pc' := 277) rfl (argsL := []) (rest := []) (lenOf pd_1 rfl) rfl (W := 0) (Nat.le_of_eq rfl) rfl (fun hn9 => Met.back (rm := R_m_hasMore) (m_hasMore hw sq (2 : Int32) (7 : Int32) F2_sq F3_sq) hn9 C.hZ (hw _ (List.mem_of_getElem? (i := 32) rfl)) (hw _ (List.mem_of_getElem? (i := 2) rfl)) (by decide) (by decide)) (k' := 4) (n' := 23) rfl rfl (by decide) (by decide) ?_
  rintro _ _ ⟨rfl, rfl⟩
  show Go w l _ n0 _ h191 4 23 277 #[.val (.int p0), .val (.int p1), .val (.int p2), .val (.int p3), .val (.int (2 : Int32)), .val (.int (0 : Int32)), .val (.int (1 : Int32)), .val (.int (1 : Int32)), .val (.int (2 : Int32)), .val (.int (3 : Int32)), .val (.int (5 : Int32)), .val (.int (8 : Int32)), .val (.ref b180), .val (.int (7 : Int32)), .val (.ref b189), .val (.int (1 : Int32)), .val (.ref sq)] [(.int (1 : Int32))]
  refine g_iload C at_277 (pc' := 279) rfl rfl ?_
  refine g_if_le C at_279 (by decide) (pc' := 286) (by decide) (pcN := 282) rfl (fun q => absurd q (by decide)) (fun _ => ?_)
  refine g_iconst C (z := (1 : Int32)) at_282 (pc' := 283) rfl rfl ?_
  refine g_goto C at_283 (by decide) (pc' := 287) (by decide) ?_
  refine g_icmp_ne C at_287 (by decide) (pc' := 294) (by decide) (pcN := 290) rfl (fun q => absurd rfl q) (fun _ => ?_)
  refine g_iconst C (z := (1 : Int32)) at_290 (pc' := 291) rfl rfl ?_
  refine g_goto C at_291 (by decide) (pc' := 295) (by decide) ?_
  refine g_istore C at_295 (pc' := 297) rfl (Ls' := #[.val (.int p0), .val (.int p1), .val (.int p2), .val (.int p3), .val (.int (2 : Int32)), .val (.int (0 : Int32)), .val (.int (1 : Int32)), .val (.int (1 : Int32)), .val (.int (2 : Int32)), .val (.int (3 : Int32)), .val (.int (5 : Int32)), .val (.int (8 : Int32)), .val (.ref b180), .val (.int (7 : Int32)), .val (.ref b189), .val (.int (1 : Int32)), .val (.ref sq)]) rfl ?_
  refine g_iload C at_297 (pc' := 299) rfl rfl ?_
  refine g_if_le C at_299 (by decide) (pc' := 340) (by decide) (pcN := 302) rfl (fun q => absurd q (by decide)) (fun _ => ?_)
  refine g_aload C at_302 (pc' := 304) rfl rfl rfl ?_
  refine g_iload C at_304 (pc' := 306) rfl rfl ?_
  refine g_static (rm := R_m_read0) C (y := (⟨"com/example/sigillum/sigillum/codec/DerReaderHasMorePinLaw", "read", "(Lcom/example/sigillum/sigillum/codec/DerReader;Z)V"⟩ : MethodName)) (hw _ (List.mem_of_getElem? (i := 58) rfl)) (hw _ (List.mem_of_getElem? (i := 59) rfl)) (hw _ (List.mem_of_getElem? (i := 56) rfl)) (hw _ (List.mem_of_getElem? (i := 60) rfl)) (by decide) at_306 (pc' := 309) rfl (argsL := [(.ref sq), (.int (0 : Int32))]) (rest := []) (lenOf pd_13 rfl) rfl (W := 0) (Nat.le_of_eq rfl) rfl (fun hn9 => Met.back (rm := R_m_read0) (m_read0 hw sq t_b189 t_NULL (2 : Int32) (7 : Int32) (8 : Int32) (5 : Int32) (0 : Int32) (0 : Int32) (5 : Int32) (4 : Int32) (upd (upd (upd (upd (upd (upd (upd (upd (fun _ => (.int 0)) 0 (.int (48 : Int32))) 1 (.int (5 : Int32))) 2 (.int (5 : Int32))) 3 (.int (0 : Int32))) 4 (.int (4 : Int32))) 5 (.int (1 : Int32))) 6 (.int (nar .byte (p2.toInt8.toInt32)))) 7 (.int (nar .byte (p3.toInt8.toInt32)))) ⟨E_sq, F1_sq, F2_sq, F3_sq⟩ At_b189 E_NULL F_NULL gsq ne_t_b189_sq (by decide) (by decide) (by decide) rfl (by decide) (by decide) (by decide) (by decide) rfl (by decide) (by decide) (by decide) (by decide) (4 : Int32) (0 : Int32) (by decide) (by decide) (by decide) (by decide) (by decide) (by decide) (by decide) (by decide) (by decide) (by decide) (by decide) (by decide) (S_NULL.ext X.2)) hn9 C.hZ (hw _ (List.mem_of_getElem? (i := 60) rfl)) (hw _ (List.mem_of_getElem? (i := 56) rfl)) (by decide) (by decide)) (k' := 5) (n' := 26) rfl rfl (by decide) (by decide) ?_
  rintro _ h192 ⟨rfl, Kr, ⟨E_sq, F1_sq, F2_sq, F3_sq⟩⟩
  have X := X.keep Kr (allS gsq all0)
  have E_SEQUENCE := E_SEQUENCE.keep Kr
  have F_SEQUENCE := F_SEQUENCE.keep Kr (ninS ne_t_SEQUENCE_sq nin0)
  have E_NULL := E_NULL.keep Kr
  have F_NULL := F_NULL.keep Kr (ninS ne_t_NULL_sq nin0)
  have E_OCTET_STRING := E_OCTET_STRING.keep Kr
  have F_OCTET_STRING := F_OCTET_STRING.keep Kr (ninS ne_t_OCTET_STRING_sq nin0)
  have A180 := A180.keep Kr (ninS ne_b180_sq nin0)
  have At_b189 := At_b189.keep Kr (ninS ne_t_b189_sq nin0)
  have E_b189 := E_b189.keep Kr
  show Go w l _ n0 _ h192 5 26 309 #[.val (.int p0), .val (.int p1), .val (.int p2), .val (.int p3), .val (.int (2 : Int32)), .val (.int (0 : Int32)), .val (.int (1 : Int32)), .val (.int (1 : Int32)), .val (.int (2 : Int32)), .val (.int (3 : Int32)), .val (.int (5 : Int32)), .val (.int (8 : Int32)), .val (.ref b180), .val (.int (7 : Int32)), .val (.ref b189), .val (.int (1 : Int32)), .val (.ref sq)] []
  refine g_iload C at_309 (pc' := 311) rfl rfl ?_
  refine g_if_eq C at_311 (by decide) (pc' := 337) (by decide) (pcN := 314) rfl (fun q => absurd q (by decide)) (fun _ => ?_)
  refine g_aload C at_314 (pc' := 316) rfl rfl rfl ?_
  refine g_virtual (rm := R_m_hasMore) (a := sq) C (y := (⟨"com/example/sigillum/sigillum/codec/DerReader", "hasMore", "()Z"⟩ : MethodName)) (y' := (⟨"com/example/sigillum/sigillum/codec/DerReader", "hasMore", "()Z"⟩ : MethodName)) (hw _ (List.mem_of_getElem? (i := 28) rfl)) (hw _ (List.mem_of_getElem? (i := 29) rfl)) (g_nf C (hw _ (List.mem_of_getElem? (i := 31) rfl))) (hw _ (List.mem_of_getElem? (i := 31) rfl)) (hw _ (List.mem_of_getElem? (i := 30) rfl)) (by decide) E_sq at_316 (pc' := 319) rfl (argsL := []) (rest := []) (lenOf pd_1 rfl) rfl (W := 0) (Nat.le_of_eq rfl) rfl (fun hn9 => Met.back (rm := R_m_hasMore) (m_hasMore hw sq (4 : Int32) (7 : Int32) F2_sq F3_sq) hn9 C.hZ (hw _ (List.mem_of_getElem? (i := 32) rfl)) (hw _ (List.mem_of_getElem? (i := 2) rfl)) (by decide) (by decide)) (k' := 5) (n' := 26) rfl rfl (by decide) (by decide) ?_
  rintro _ _ ⟨rfl, rfl⟩
  show Go w l _ n0 _ h192 5 26 319 #[.val (.int p0), .val (.int p1), .val (.int p2), .val (.int p3), .val (.int (2 : Int32)), .val (.int (0 : Int32)), .val (.int (1 : Int32)), .val (.int (1 : Int32)), .val (.int (2 : Int32)), .val (.int (3 : Int32)), .val (.int (5 : Int32)), .val (.int (8 : Int32)), .val (.ref b180), .val (.int (7 : Int32)), .val (.ref b189), .val (.int (1 : Int32)), .val (.ref sq)] [(.int (1 : Int32))]
  refine g_iload C at_319 (pc' := 321) rfl rfl ?_
  refine g_iconst C (z := (1 : Int32)) at_321 (pc' := 322) rfl rfl ?_
  refine g_icmp_le C at_322 (by decide) (pc' := 329) (by decide) (pcN := 325) rfl (fun q => absurd q (by decide)) (fun _ => ?_)
  refine g_iconst C (z := (1 : Int32)) at_325 (pc' := 326) rfl rfl ?_
  refine g_goto C at_326 (by decide) (pc' := 330) (by decide) ?_
  refine g_icmp_ne C at_330 (by decide) (pc' := 337) (by decide) (pcN := 333) rfl (fun q => absurd rfl q) (fun _ => ?_)
  refine g_iconst C (z := (1 : Int32)) at_333 (pc' := 334) rfl rfl ?_
  refine g_goto C at_334 (by decide) (pc' := 338) (by decide) ?_
  refine g_istore C at_338 (pc' := 340) rfl (Ls' := #[.val (.int p0), .val (.int p1), .val (.int p2), .val (.int p3), .val (.int (2 : Int32)), .val (.int (0 : Int32)), .val (.int (1 : Int32)), .val (.int (1 : Int32)), .val (.int (2 : Int32)), .val (.int (3 : Int32)), .val (.int (5 : Int32)), .val (.int (8 : Int32)), .val (.ref b180), .val (.int (7 : Int32)), .val (.ref b189), .val (.int (1 : Int32)), .val (.ref sq)]) rfl ?_
  refine g_iload C at_340 (pc' := 342) rfl rfl ?_
  refine g_iconst C (z := (1 : Int32)) at_342 (pc' := 343) rfl rfl ?_
  refine g_icmp_le C at_343 (by decide) (pc' := 373) (by decide) (pcN := 346) rfl (fun q => absurd q (by decide)) (fun _ => ?_)
  refine g_aload C at_346 (pc' := 348) rfl rfl rfl ?_
  refine g_iload C at_348 (pc' := 350) rfl rfl ?_
  refine g_static (rm := R_m_read1) C (y := (⟨"com/example/sigillum/sigillum/codec/DerReaderHasMorePinLaw", "read", "(Lcom/example/sigillum/sigillum/codec/DerReader;Z)V"⟩ : MethodName)) (hw _ (List.mem_of_getElem? (i := 58) rfl)) (hw _ (List.mem_of_getElem? (i := 59) rfl)) (hw _ (List.mem_of_getElem? (i := 56) rfl)) (hw _ (List.mem_of_getElem? (i := 60) rfl)) (by decide) at_350 (pc' := 353) rfl (argsL := [(.ref sq), (.int (1 : Int32))]) (rest := []) (lenOf pd_13 rfl) rfl (W := 0) (Nat.le_of_eq rfl) rfl (fun hn9 => Met.back (rm := R_m_read1) (m_read1 hw sq t_b189 t_OCTET_STRING (4 : Int32) (7 : Int32) (8 : Int32) (4 : Int32) (1 : Int32) (1 : Int32) (4 : Int32) (6 : Int32) (upd (upd (upd (upd (upd (upd (upd (upd (fun _ => (.int 0)) 0 (.int (48 : Int32))) 1 (.int (5 : Int32))) 2 (.int (5 : Int32))) 3 (.int (0 : Int32))) 4 (.int (4 : Int32))) 5 (.int (1 : Int32))) 6 (.int (nar .byte (p2.toInt8.toInt32)))) 7 (.int (nar .byte (p3.toInt8.toInt32)))) ⟨E_sq, F1_sq, F2_sq, F3_sq⟩ At_b189 E_OCTET_STRING F_OCTET_STRING gsq ne_t_b189_sq (by decide) (by decide) (by decide) rfl (by decide) (by decide) (by decide) (by decide) rfl (by decide) (by decide) (by decide) (by decide) (7 : Int32) (1 : Int32) (by decide) (by decide) (by decide) (by decide) (by decide) (by decide) (by decide) (by decide) (by decide) (by decide) (by decide) (S_OCTET_STRING.ext X.2)) hn9 C.hZ (hw _ (List.mem_of_getElem? (i := 60) rfl)) (hw _ (List.mem_of_getElem? (i := 56) rfl)) (by decide) (by decide)) (k' := 6) (n' := 29) rfl rfl (by decide) (by decide) ?_
  rintro _ h193 ⟨rfl, Kr, ⟨E_sq, F1_sq, F2_sq, F3_sq⟩⟩
  have X := X.keep Kr (allS gsq all0)
  have E_SEQUENCE := E_SEQUENCE.keep Kr
  have F_SEQUENCE := F_SEQUENCE.keep Kr (ninS ne_t_SEQUENCE_sq nin0)
  have E_NULL := E_NULL.keep Kr
  have F_NULL := F_NULL.keep Kr (ninS ne_t_NULL_sq nin0)
  have E_OCTET_STRING := E_OCTET_STRING.keep Kr
  have F_OCTET_STRING := F_OCTET_STRING.keep Kr (ninS ne_t_OCTET_STRING_sq nin0)
  have A180 := A180.keep Kr (ninS ne_b180_sq nin0)
  have At_b189 := At_b189.keep Kr (ninS ne_t_b189_sq nin0)
  have E_b189 := E_b189.keep Kr
  show Go w l _ n0 _ h193 6 29 353 #[.val (.int p0), .val (.int p1), .val (.int p2), .val (.int p3), .val (.int (2 : Int32)), .val (.int (0 : Int32)), .val (.int (1 : Int32)), .val (.int (1 : Int32)), .val (.int (2 : Int32)), .val (.int (3 : Int32)), .val (.int (5 : Int32)), .val (.int (8 : Int32)), .val (.ref b180), .val (.int (7 : Int32)), .val (.ref b189), .val (.int (1 : Int32)), .val (.ref sq)] []
  refine g_iload C at_353 (pc' := 355) rfl rfl ?_
  refine g_if_eq C at_355 (by decide) (pc' := 370) (by decide) (pcN := 358) rfl (fun q => absurd q (by decide)) (fun _ => ?_)
  refine g_aload C at_358 (pc' := 360) rfl rfl rfl ?_
  refine g_virtual (rm := R_m_hasMore) (a := sq) C (y := (⟨"com/example/sigillum/sigillum/codec/DerReader", "hasMore", "()Z"⟩ : MethodName)) (y' := (⟨"com/example/sigillum/sigillum/codec/DerReader", "hasMore", "()Z"⟩ : MethodName)) (hw _ (List.mem_of_getElem? (i := 28) rfl)) (hw _ (List.mem_of_getElem? (i := 29) rfl)) (g_nf C (hw _ (List.mem_of_getElem? (i := 31) rfl))) (hw _ (List.mem_of_getElem? (i := 31) rfl)) (hw _ (List.mem_of_getElem? (i := 30) rfl)) (by decide) E_sq at_360 (pc' := 363) rfl (argsL := []) (rest := []) (lenOf pd_1 rfl) rfl (W := 0) (Nat.le_of_eq rfl) rfl (fun hn9 => Met.back (rm := R_m_hasMore) (m_hasMore hw sq (7 : Int32) (7 : Int32) F2_sq F3_sq) hn9 C.hZ (hw _ (List.mem_of_getElem? (i := 32) rfl)) (hw _ (List.mem_of_getElem? (i := 2) rfl)) (by decide) (by decide)) (k' := 6) (n' := 29) rfl rfl (by decide) (by decide) ?_
  rintro _ _ ⟨rfl, rfl⟩
  show Go w l _ n0 _ h193 6 29 363 #[.val (.int p0), .val (.int p1), .val (.int p2), .val (.int p3), .val (.int (2 : Int32)), .val (.int (0 : Int32)), .val (.int (1 : Int32)), .val (.int (1 : Int32)), .val (.int (2 : Int32)), .val (.int (3 : Int32)), .val (.int (5 : Int32)), .val (.int (8 : Int32)), .val (.ref b180), .val (.int (7 : Int32)), .val (.ref b189), .val (.int (1 : Int32)), .val (.ref sq)] [(.int (0 : Int32))]
  refine g_if_ne C at_363 (by decide) (pc' := 370) (by decide) (pcN := 366) rfl (fun q => absurd rfl q) (fun _ => ?_)
  refine g_iconst C (z := (1 : Int32)) at_366 (pc' := 367) rfl rfl ?_
  refine g_goto C at_367 (by decide) (pc' := 371) (by decide) ?_
  refine g_istore C at_371 (pc' := 373) rfl (Ls' := #[.val (.int p0), .val (.int p1), .val (.int p2), .val (.int p3), .val (.int (2 : Int32)), .val (.int (0 : Int32)), .val (.int (1 : Int32)), .val (.int (1 : Int32)), .val (.int (2 : Int32)), .val (.int (3 : Int32)), .val (.int (5 : Int32)), .val (.int (8 : Int32)), .val (.ref b180), .val (.int (7 : Int32)), .val (.ref b189), .val (.int (1 : Int32)), .val (.ref sq)]) rfl ?_
  refine g_iload C at_373 (pc' := 375) rfl rfl ?_
  exact g_retN C (t := .boolean) rfl (by simp) at_375 rfl (by decide) (by decide)
set_option maxRecDepth 65536 in
set_option maxHeartbeats 40000000 in
theorem seg82_2100 {l : Launch} {Z : State} {a0 : Array Value} (hw : ∀ d ∈ tables_1, d.before a0 Z = true) {w : Wk} {n0 : Nat} {h0 : Heap} {Y : State → Outcome → Prop} (p0 p1 p2 p3 : Int32) (t_SEQUENCE t_NULL t_OCTET_STRING : Addr) (C : Cx w Z "com/example/sigillum/sigillum/codec/DerReaderHasMorePinLaw" code 17 (some .boolean) "law" room_1 n0 (fun v _ => v = some (.int 1)) Y) (X : Old Z n0 h0) (S_SEQUENCE : Sta Z Z.heap "com/example/sigillum/sigillum/codec/DerTag" "SEQUENCE" "Lcom/example/sigillum/sigillum/codec/DerTag;" (.ref t_SEQUENCE)) (E_SEQUENCE : Exa Z h0 t_SEQUENCE "com/example/sigillum/sigillum/codec/DerTag") (F_SEQUENCE : Fld Z h0 t_SEQUENCE "com/example/sigillum/sigillum/codec/DerTag" "identifier" "I" (.int 48)) (S_NULL : Sta Z Z.heap "com/example/sigillum/sigillum/codec/DerTag" "NULL" "Lcom/example/sigillum/sigillum/codec/DerTag;" (.ref t_NULL)) (E_NULL : Exa Z h0 t_NULL "com/example/sigillum/sigillum/codec/DerTag") (F_NULL : Fld Z h0 t_NULL "com/example/sigillum/sigillum/codec/DerTag" "identifier" "I" (.int 5)) (S_OCTET_STRING : Sta Z Z.heap "com/example/sigillum/sigillum/codec/DerTag" "OCTET_STRING" "Lcom/example/sigillum/sigillum/codec/DerTag;" (.ref t_OCTET_STRING)) (E_OCTET_STRING : Exa Z h0 t_OCTET_STRING "com/example/sigillum/sigillum/codec/DerTag") (F_OCTET_STRING : Fld Z h0 t_OCTET_STRING "com/example/sigillum/sigillum/codec/DerTag" "identifier" "I" (.int 4)) :
    Go w l room_1 n0 Y h0 0 0 82 #[.val (.int p0), .val (.int p1), .val (.int p2), .val (.int p3), .val (.int (2 : Int32)), .val (.int (1 : Int32)), .val (.int (0 : Int32)), .val (.int (0 : Int32)), .unset, .unset, .unset, .unset, .unset, .unset, .unset, .unset, .unset] [] := by
  refine g_iload C at_82 (pc' := 84) rfl rfl ?_
  refine g_if_le C at_84 (by decide) (pc' := 100) (by decide) (pcN := 87) rfl (fun q => absurd q (by decide)) (fun _ => ?_)
  refine g_iload C at_87 (pc' := 89) rfl rfl ?_
  refine g_if_eq C at_89 (by decide) (pc' := 96) (by decide) (pcN := 92) rfl (fun q => absurd q (by decide)) (fun _ => ?_)
  refine g_iconst C (z := (3 : Int32)) at_92 (pc' := 93) rfl rfl ?_
  refine g_goto C at_93 (by decide) (pc' := 101) (by decide) ?_
  refine g_istore C at_101 (pc' := 103) rfl (Ls' := #[.val (.int p0), .val (.int p1), .val (.int p2), .val (.int p3), .val (.int (2 : Int32)), .val (.int (1 : Int32)), .val (.int (0 : Int32)), .val (.int (0 : Int32)), .val (.int (3 : Int32)), .unset, .unset, .unset, .unset, .unset, .unset, .unset, .unset]) rfl ?_
  refine g_iload C at_103 (pc' := 105) rfl rfl ?_
  refine g_iconst C (z := (1 : Int32)) at_105 (pc' := 106) rfl rfl ?_
  refine g_icmp_le C at_106 (by decide) (pc' := 122) (by decide) (pcN := 109) rfl (fun q => absurd q (by decide)) (fun _ => ?_)
  refine g_iload C at_109 (pc' := 111) rfl rfl ?_
  refine g_if_eq C at_111 (by decide) (pc' := 118) (by decide) (pcN := 114) rfl (fun _ => ?_) (fun q => absurd rfl q)
  refine g_iconst C (z := (2 : Int32)) at_118 (pc' := 119) rfl rfl ?_
  refine g_goto C at_119 (by decide) (pc' := 123) (by decide) ?_
  refine g_istore C at_123 (pc' := 125) rfl (Ls' := #[.val (.int p0), .val (.int p1), .val (.int p2), .val (.int p3), .val (.int (2 : Int32)), .val (.int (1 : Int32)), .val (.int (0 : Int32)), .val (.int (0 : Int32)), .val (.int (3 : Int32)), .val (.int (2 : Int32)), .unset, .unset, .unset, .unset, .unset, .unset, .unset]) rfl ?_
  refine g_iload C at_125 (pc' := 127) rfl rfl ?_
  refine g_iload C at_127 (pc' := 129) rfl rfl ?_
  refine g_iadd C at_129 (pc' := 130) rfl ?_
  show Go w l _ n0 _ h0 0 0 130 #[.val (.int p0), .val (.int p1), .val (.int p2), .val (.int p3), .val (.int (2 : Int32)), .val (.int (1 : Int32)), .val (.int (0 : Int32)), .val (.int (0 : Int32)), .val (.int (3 : Int32)), .val (.int (2 : Int32)), .unset, .unset, .unset, .unset, .unset, .unset, .unset] [(.int (5 : Int32))]
  refine g_istore C at_130 (pc' := 132) rfl (Ls' := #[.val (.int p0), .val (.int p1), .val (.int p2), .val (.int p3), .val (.int (2 : Int32)), .val (.int (1 : Int32)), .val (.int (0 : Int32)), .val (.int (0 : Int32)), .val (.int (3 : Int32)), .val (.int (2 : Int32)), .val (.int (5 : Int32)), .unset, .unset, .unset, .unset, .unset, .unset]) rfl ?_
  refine g_iconst C (z := (2 : Int32)) at_132 (pc' := 133) rfl rfl ?_
  refine g_iload C at_133 (pc' := 135) rfl rfl ?_
  refine g_iadd C at_135 (pc' := 136) rfl ?_
  show Go w l _ n0 _ h0 0 0 136 #[.val (.int p0), .val (.int p1), .val (.int p2), .val (.int p3), .val (.int (2 : Int32)), .val (.int (1 : Int32)), .val (.int (0 : Int32)), .val (.int (0 : Int32)), .val (.int (3 : Int32)), .val (.int (2 : Int32)), .val (.int (5 : Int32)), .unset, .unset, .unset, .unset, .unset, .unset] [(.int (7 : Int32))]
  refine g_iload C at_136 (pc' := 138) rfl rfl ?_
  refine g_if_eq C at_138 (by decide) (pc' := 145) (by decide) (pcN := 141) rfl (fun _ => ?_) (fun q => absurd rfl q)
  refine g_iconst C (z := (0 : Int32)) at_145 (pc' := 146) rfl rfl ?_
  refine g_iadd C at_146 (pc' := 147) rfl ?_
  show Go w l _ n0 _ h0 0 0 147 #[.val (.int p0), .val (.int p1), .val (.int p2), .val (.int p3), .val (.int (2 : Int32)), .val (.int (1 : Int32)), .val (.int (0 : Int32)), .val (.int (0 : Int32)), .val (.int (3 : Int32)), .val (.int (2 : Int32)), .val (.int (5 : Int32)), .unset, .unset, .unset, .unset, .unset, .unset] [(.int (7 : Int32))]
  refine g_istore C at_147 (pc' := 149) rfl (Ls' := #[.val (.int p0), .val (.int p1), .val (.int p2), .val (.int p3), .val (.int (2 : Int32)), .val (.int (1 : Int32)), .val (.int (0 : Int32)), .val (.int (0 : Int32)), .val (.int (3 : Int32)), .val (.int (2 : Int32)), .val (.int (5 : Int32)), .val (.int (7 : Int32)), .unset, .unset, .unset, .unset, .unset]) rfl ?_
  refine g_iload C at_149 (pc' := 151) rfl rfl ?_
  refine g_newarr C (ad := "[B") (cap := 7) (hw _ (List.mem_of_getElem? (i := 3) rfl)) at_151 (pc' := 153) rfl rfl (by decide) (by decide) (by decide) (k' := 1) (n' := 7) rfl rfl (by decide) (by decide) rfl ?_
  intro h194 b194 E194 fb194 gb194 A194
  have ne_t_SEQUENCE_b194 : t_SEQUENCE ≠ b194 := Nat.ne_of_lt (Nat.lt_of_lt_of_le E_SEQUENCE.lt fb194)
  have ne_t_NULL_b194 : t_NULL ≠ b194 := Nat.ne_of_lt (Nat.lt_of_lt_of_le E_NULL.lt fb194)
  have ne_t_OCTET_STRING_b194 : t_OCTET_STRING ≠ b194 := Nat.ne_of_lt (Nat.lt_of_lt_of_le E_OCTET_STRING.lt fb194)
  have X := X.ext E194
  have E_SEQUENCE := E_SEQUENCE.ext E194
  have F_SEQUENCE := F_SEQUENCE.ext E194
  have E_NULL := E_NULL.ext E194
  have F_NULL := F_NULL.ext E194
  have E_OCTET_STRING := E_OCTET_STRING.ext E194
  have F_OCTET_STRING := F_OCTET_STRING.ext E194
  have A194 : Arf Z h194 b194 "[B" .byte (7 : Int32) (fun _ => (.int 0)) := A194
  refine g_astore C at_153 (pc' := 155) rfl rfl (Ls' := #[.val (.int p0), .val (.int p1), .val (.int p2), .val (.int p3), .val (.int (2 : Int32)), .val (.int (1 : Int32)), .val (.int (0 : Int32)), .val (.int (0 : Int32)), .val (.int (3 : Int32)), .val (.int (2 : Int32)), .val (.int (5 : Int32)), .val (.int (7 : Int32)), .val (.ref b194), .unset, .unset, .unset, .unset]) rfl ?_
  refine g_aload C at_155 (pc' := 157) rfl rfl rfl ?_
  refine g_iconst C (z := (0 : Int32)) at_157 (pc' := 158) rfl rfl ?_
  refine g_bipush C (z := (48 : Int32)) at_158 (pc' := 160) rfl rfl ?_
  refine g_bastore C A194 (by decide) (by decide) at_160 (pc' := 161) rfl gb194 (fun h195 W196 A194' => ?_)
  have X := X.wr W196 gb194
  have E_SEQUENCE := E_SEQUENCE.wr W196
  have F_SEQUENCE := F_SEQUENCE.other W196 (Or.inl ne_t_SEQUENCE_b194)
  have E_NULL := E_NULL.wr W196
  have F_NULL := F_NULL.other W196 (Or.inl ne_t_NULL_b194)
  have E_OCTET_STRING := E_OCTET_STRING.wr W196
  have F_OCTET_STRING := F_OCTET_STRING.other W196 (Or.inl ne_t_OCTET_STRING_b194)
  have A194 : Arf Z h195 b194 "[B" .byte (7 : Int32) (upd (fun _ => (.int 0)) 0 (.int (48 : Int32))) := A194'
  refine g_aload C at_161 (pc' := 163) rfl rfl rfl ?_
  refine g_iconst C (z := (1 : Int32)) at_163 (pc' := 164) rfl rfl ?_
  refine g_iload C at_164 (pc' := 166) rfl rfl ?_
  refine g_i2b C at_166 (pc' := 167) rfl ?_
  show Go w l _ n0 _ h195 1 7 167 #[.val (.int p0), .val (.int p1), .val (.int p2), .val (.int p3), .val (.int (2 : Int32)), .val (.int (1 : Int32)), .val (.int (0 : Int32)), .val (.int (0 : Int32)), .val (.int (3 : Int32)), .val (.int (2 : Int32)), .val (.int (5 : Int32)), .val (.int (7 : Int32)), .val (.ref b194), .unset, .unset, .unset, .unset] [(.int (5 : Int32)), (.int (1 : Int32)), (.ref b194)]
  refine g_bastore C A194 (by decide) (by decide) at_167 (pc' := 168) rfl gb194 (fun h197 W198 A194' => ?_)
  have X := X.wr W198 gb194
  have E_SEQUENCE := E_SEQUENCE.wr W198
  have F_SEQUENCE := F_SEQUENCE.other W198 (Or.inl ne_t_SEQUENCE_b194)
  have E_NULL := E_NULL.wr W198
  have F_NULL := F_NULL.other W198 (Or.inl ne_t_NULL_b194)
  have E_OCTET_STRING := E_OCTET_STRING.wr W198
  have F_OCTET_STRING := F_OCTET_STRING.other W198 (Or.inl ne_t_OCTET_STRING_b194)
  have A194 : Arf Z h197 b194 "[B" .byte (7 : Int32) (upd (upd (fun _ => (.int 0)) 0 (.int (48 : Int32))) 1 (.int (5 : Int32))) := A194'
  refine g_iconst C (z := (2 : Int32)) at_168 (pc' := 169) rfl rfl ?_
  refine g_istore C at_169 (pc' := 171) rfl (Ls' := #[.val (.int p0), .val (.int p1), .val (.int p2), .val (.int p3), .val (.int (2 : Int32)), .val (.int (1 : Int32)), .val (.int (0 : Int32)), .val (.int (0 : Int32)), .val (.int (3 : Int32)), .val (.int (2 : Int32)), .val (.int (5 : Int32)), .val (.int (7 : Int32)), .val (.ref b194), .val (.int (2 : Int32)), .unset, .unset, .unset]) rfl ?_
  refine g_iload C at_171 (pc' := 173) rfl rfl ?_
  refine g_if_le C at_173 (by decide) (pc' := 189) (by decide) (pcN := 176) rfl (fun q => absurd q (by decide)) (fun _ => ?_)
  refine g_aload C at_176 (pc' := 178) rfl rfl rfl ?_
  refine g_iload C at_178 (pc' := 180) rfl rfl ?_
  refine g_iload C at_180 (pc' := 182) rfl rfl ?_
  refine g_iloadN C at_182 (pc' := 183) rfl rfl ?_
  refine g_i2b C at_183 (pc' := 184) rfl ?_
  refine g_static (rm := R_m_put1) C (y := (⟨"com/example/sigillum/sigillum/codec/DerReaderHasMorePinLaw", "put", "([BIZB)I"⟩ : MethodName)) (hw _ (List.mem_of_getElem? (i := 54) rfl)) (hw _ (List.mem_of_getElem? (i := 55) rfl)) (hw _ (List.mem_of_getElem? (i := 56) rfl)) (hw _ (List.mem_of_getElem? (i := 57) rfl)) (by decide) at_184 (pc' := 187) rfl (argsL := [(.ref b194), (.int (2 : Int32)), (.int (1 : Int32)), (.int (p1.toInt8.toInt32))]) (rest := []) (lenOf pd_12 rfl) rfl (W := 0) (Nat.le_of_eq rfl) rfl (fun hn9 => Met.back (rm := R_m_put1) (m_put1 hw b194 (2 : Int32) (p1.toInt8.toInt32) (7 : Int32) (upd (upd (fun _ => (.int 0)) 0 (.int (48 : Int32))) 1 (.int (5 : Int32))) A194 gb194 (by decide) (by decide) (by decide) (by decide) (by decide) (by decide)) hn9 C.hZ (hw _ (List.mem_of_getElem? (i := 57) rfl)) (hw _ (List.mem_of_getElem? (i := 56) rfl)) (by decide) (by decide)) (k' := 1) (n' := 7) rfl rfl (by decide) (by decide) ?_
  rintro _ h199 ⟨rfl, Kp, Ap⟩
  have X := X.keep Kp (allS gb194 all0)
  have E_SEQUENCE := E_SEQUENCE.keep Kp
  have F_SEQUENCE := F_SEQUENCE.keep Kp (ninS ne_t_SEQUENCE_b194 nin0)
  have E_NULL := E_NULL.keep Kp
  have F_NULL := F_NULL.keep Kp (ninS ne_t_NULL_b194 nin0)
  have E_OCTET_STRING := E_OCTET_STRING.keep Kp
  have F_OCTET_STRING := F_OCTET_STRING.keep Kp (ninS ne_t_OCTET_STRING_b194 nin0)
  have A194 : Arf Z h199 b194 "[B" .byte (7 : Int32) (upd (upd (upd (upd (upd (fun _ => (.int 0)) 0 (.int (48 : Int32))) 1 (.int (5 : Int32))) 2 (.int (4 : Int32))) 3 (.int (1 : Int32))) 4 (.int (nar .byte (p1.toInt8.toInt32)))) := Ap
  show Go w l _ n0 _ h199 1 7 187 #[.val (.int p0), .val (.int p1), .val (.int p2), .val (.int p3), .val (.int (2 : Int32)), .val (.int (1 : Int32)), .val (.int (0 : Int32)), .val (.int (0 : Int32)), .val (.int (3 : Int32)), .val (.int (2 : Int32)), .val (.int (5 : Int32)), .val (.int (7 : Int32)), .val (.ref b194), .val (.int (2 : Int32)), .unset, .unset, .unset] [(.int (5 : Int32))]
  refine g_istore C at_187 (pc' := 189) rfl (Ls' := #[.val (.int p0), .val (.int p1), .val (.int p2), .val (.int p3), .val (.int (2 : Int32)), .val (.int (1 : Int32)), .val (.int (0 : Int32)), .val (.int (0 : Int32)), .val (.int (3 : Int32)), .val (.int (2 : Int32)), .val (.int (5 : Int32)), .val (.int (7 : Int32)), .val (.ref b194), .val (.int (5 : Int32)), .unset, .unset, .unset]) rfl ?_
  refine g_iload C at_189 (pc' := 191) rfl rfl ?_
  refine g_iconst C (z := (1 : Int32)) at_191 (pc' := 192) rfl rfl ?_
  refine g_icmp_le C at_192 (by decide) (pc' := 208) (by decide) (pcN := 195) rfl (fun q => absurd q (by decide)) (fun _ => ?_)
  refine g_aload C at_195 (pc' := 197) rfl rfl rfl ?_
  refine g_iload C at_197 (pc' := 199) rfl rfl ?_
  refine g_iload C at_199 (pc' := 201) rfl rfl ?_
  refine g_iloadN C at_201 (pc' := 202) rfl rfl ?_
  refine g_i2b C at_202 (pc' := 203) rfl ?_
  refine g_static (rm := R_m_put0) C (y := (⟨"com/example/sigillum/sigillum/codec/DerReaderHasMorePinLaw", "put", "([BIZB)I"⟩ : MethodName)) (hw _ (List.mem_of_getElem? (i := 54) rfl)) (hw _ (List.mem_of_getElem? (i := 55) rfl)) (hw _ (List.mem_of_getElem? (i := 56) rfl)) (hw _ (List.mem_of_getElem? (i := 57) rfl)) (by decide) at_203 (pc' := 206) rfl (argsL := [(.ref b194), (.int (5 : Int32)), (.int (0 : Int32)), (.int (p2.toInt8.toInt32))]) (rest := []) (lenOf pd_12 rfl) rfl (W := 0) (Nat.le_of_eq rfl) rfl (fun hn9 => Met.back (rm := R_m_put0) (m_put0 hw b194 (5 : Int32) (p2.toInt8.toInt32) (7 : Int32) (upd (upd (upd (upd (upd (fun _ => (.int 0)) 0 (.int (48 : Int32))) 1 (.int (5 : Int32))) 2 (.int (4 : Int32))) 3 (.int (1 : Int32))) 4 (.int (nar .byte (p1.toInt8.toInt32)))) A194 gb194 (by decide) (by decide) (by decide) (by decide)) hn9 C.hZ (hw _ (List.mem_of_getElem? (i := 57) rfl)) (hw _ (List.mem_of_getElem? (i := 56) rfl)) (by decide) (by decide)) (k' := 1) (n' := 7) rfl rfl (by decide) (by decide) ?_
  rintro _ h200 ⟨rfl, Kp, Ap⟩
  have X := X.keep Kp (allS gb194 all0)
  have E_SEQUENCE := E_SEQUENCE.keep Kp
  have F_SEQUENCE := F_SEQUENCE.keep Kp (ninS ne_t_SEQUENCE_b194 nin0)
  have E_NULL := E_NULL.keep Kp
  have F_NULL := F_NULL.keep Kp (ninS ne_t_NULL_b194 nin0)
  have E_OCTET_STRING := E_OCTET_STRING.keep Kp
  have F_OCTET_STRING := F_OCTET_STRING.keep Kp (ninS ne_t_OCTET_STRING_b194 nin0)
  have A194 : Arf Z h200 b194 "[B" .byte (7 : Int32) (upd (upd (upd (upd (upd (upd (upd (fun _ => (.int 0)) 0 (.int (48 : Int32))) 1 (.int (5 : Int32))) 2 (.int (4 : Int32))) 3 (.int (1 : Int32))) 4 (.int (nar .byte (p1.toInt8.toInt32)))) 5 (.int (5 : Int32))) 6 (.int (0 : Int32))) := Ap
  show Go w l _ n0 _ h200 1 7 206 #[.val (.int p0), .val (.int p1), .val (.int p2), .val (.int p3), .val (.int (2 : Int32)), .val (.int (1 : Int32)), .val (.int (0 : Int32)), .val (.int (0 : Int32)), .val (.int (3 : Int32)), .val (.int (2 : Int32)), .val (.int (5 : Int32)), .val (.int (7 : Int32)), .val (.ref b194), .val (.int (5 : Int32)), .unset, .unset, .unset] [(.int (7 : Int32))]
  refine g_istore C at_206 (pc' := 208) rfl (Ls' := #[.val (.int p0), .val (.int p1), .val (.int p2), .val (.int p3), .val (.int (2 : Int32)), .val (.int (1 : Int32)), .val (.int (0 : Int32)), .val (.int (0 : Int32)), .val (.int (3 : Int32)), .val (.int (2 : Int32)), .val (.int (5 : Int32)), .val (.int (7 : Int32)), .val (.ref b194), .val (.int (7 : Int32)), .unset, .unset, .unset]) rfl ?_
  refine g_iload C at_208 (pc' := 210) rfl rfl ?_
  refine g_if_eq C at_210 (by decide) (pc' := 220) (by decide) (pcN := 213) rfl (fun _ => ?_) (fun q => absurd rfl q)
  refine g_new C (hw _ (List.mem_of_getElem? (i := 0) rfl)) (hw _ (List.mem_of_getElem? (i := 1) rfl)) (hw _ (List.mem_of_getElem? (i := 2) rfl)) at_220 (pc' := 223) rfl (k' := 2) (n' := 10) rfl rfl (by decide) (by decide) ?_
  intro h201 b201 E201 fb201 gb201 A201 D201
  have ne_t_SEQUENCE_b201 : t_SEQUENCE ≠ b201 := Nat.ne_of_lt (Nat.lt_of_lt_of_le E_SEQUENCE.lt fb201)
  have ne_t_NULL_b201 : t_NULL ≠ b201 := Nat.ne_of_lt (Nat.lt_of_lt_of_le E_NULL.lt fb201)
  have ne_t_OCTET_STRING_b201 : t_OCTET_STRING ≠ b201 := Nat.ne_of_lt (Nat.lt_of_lt_of_le E_OCTET_STRING.lt fb201)
  have ne_b194_b201 : b194 ≠ b201 := Nat.ne_of_lt (Nat.lt_of_lt_of_le A194.lt fb201)
  have X := X.ext E201
  have E_SEQUENCE := E_SEQUENCE.ext E201
  have F_SEQUENCE := F_SEQUENCE.ext E201
  have E_NULL := E_NULL.ext E201
  have F_NULL := F_NULL.ext E201
  have E_OCTET_STRING := E_OCTET_STRING.ext E201
  have F_OCTET_STRING := F_OCTET_STRING.ext E201
  have A194 := A194.ext E201
  have F201_der : Fld Z h201 b201 "com/example/sigillum/sigillum/codec/DerReader" "der" "[B" .null := D201 (Or.inr (hw _ (List.mem_of_getElem? (i := 23) rfl))) (ty := (.array .byte)) (by decide)
  have F201_position : Fld Z h201 b201 "com/example/sigillum/sigillum/codec/DerReader" "position" "I" (.int (0 : Int32)) := D201 (Or.inl (hw _ (List.mem_of_getElem? (i := 25) rfl))) (ty := .int) (by decide)
  have F201_end : Fld Z h201 b201 "com/example/sigillum/sigillum/codec/DerReader" "end" "I" (.int (0 : Int32)) := D201 (Or.inr (hw _ (List.mem_of_getElem? (i := 27) rfl))) (ty := .int) (by decide)
  refine g_dup C at_223 (pc' := 224) rfl rfl ?_
  refine g_aload C at_224 (pc' := 226) rfl rfl rfl ?_
  refine g_special (rm := R_m_init1) (a := b201) C (y := (⟨"com/example/sigillum/sigillum/codec/DerReader", "<init>", "([B)V"⟩ : MethodName)) rfl (hw _ (List.mem_of_getElem? (i := 4) rfl)) (hw _ (List.mem_of_getElem? (i := 5) rfl)) (hw _ (List.mem_of_getElem? (i := 6) rfl)) (by decide) at_226 (pc' := 229) rfl (argsL := [(.ref b194)]) (rest := [(.ref b201)]) (lenOf pd_10 rfl) rfl (W := 1) (Nat.le_of_eq rfl) rfl (fun hn9 => Met.back (rm := R_m_init1) (m_init1 hw b201 b194 (7 : Int32) (upd (upd (upd (upd (upd (upd (upd (fun _ => (.int 0)) 0 (.int (48 : Int32))) 1 (.int (5 : Int32))) 2 (.int (4 : Int32))) 3 (.int (1 : Int32))) 4 (.int (nar .byte (p1.toInt8.toInt32)))) 5 (.int (5 : Int32))) 6 (.int (0 : Int32))) ⟨A201, F201_der, F201_position, F201_end⟩ A194 (by decide) gb201) hn9 C.hZ (hw _ (List.mem_of_getElem? (i := 6) rfl)) (hw _ (List.mem_of_getElem? (i := 2) rfl)) (by decide) (by decide)) (k' := 3) (n' := 19) rfl rfl (by decide) (by decide) ?_
  rintro _ h202 ⟨rfl, Ki, t_b201, ft_b201, gt_b201, ⟨E_b201, F1_b201, F2_b201, F3_b201⟩, At_b201⟩
  have ne_t_SEQUENCE_t_b201 : t_SEQUENCE ≠ t_b201 := Nat.ne_of_lt (Nat.lt_of_lt_of_le E_SEQUENCE.lt ft_b201)
  have ne_t_NULL_t_b201 : t_NULL ≠ t_b201 := Nat.ne_of_lt (Nat.lt_of_lt_of_le E_NULL.lt ft_b201)
  have ne_t_OCTET_STRING_t_b201 : t_OCTET_STRING ≠ t_b201 := Nat.ne_of_lt (Nat.lt_of_lt_of_le E_OCTET_STRING.lt ft_b201)
  have ne_b194_t_b201 : b194 ≠ t_b201 := Nat.ne_of_lt (Nat.lt_of_lt_of_le A194.lt ft_b201)
  have ne_b201_t_b201 : b201 ≠ t_b201 := Nat.ne_of_lt (Nat.lt_of_lt_of_le A201.lt ft_b201)
  have X := X.keep Ki (allS gb201 all0)
  have E_SEQUENCE := E_SEQUENCE.keep Ki
  have F_SEQUENCE := F_SEQUENCE.keep Ki (ninS ne_t_SEQUENCE_b201 nin0)
  have E_NULL := E_NULL.keep Ki
  have F_NULL := F_NULL.keep Ki (ninS ne_t_NULL_b201 nin0)
  have E_OCTET_STRING := E_OCTET_STRING.keep Ki
  have F_OCTET_STRING := F_OCTET_STRING.keep Ki (ninS ne_t_OCTET_STRING_b201 nin0)
  have A194 := A194.keep Ki (ninS ne_b194_b201 nin0)
  have A201 := A201.keep Ki
  show Go w l _ n0 _ h202 3 19 229 #[.val (.int p0), .val (.int p1), .val (.int p2), .val (.int p3), .val (.int (2 : Int32)), .val (.int (1 : Int32)), .val (.int (0 : Int32)), .val (.int (0 : Int32)), .val (.int (3 : Int32)), .val (.int (2 : Int32)), .val (.int (5 : Int32)), .val (.int (7 : Int32)), .val (.ref b194), .val (.int (7 : Int32)), .unset, .unset, .unset] [(.ref b201)]
  refine g_astore C at_229 (pc' := 231) rfl rfl (Ls' := #[.val (.int p0), .val (.int p1), .val (.int p2), .val (.int p3), .val (.int (2 : Int32)), .val (.int (1 : Int32)), .val (.int (0 : Int32)), .val (.int (0 : Int32)), .val (.int (3 : Int32)), .val (.int (2 : Int32)), .val (.int (5 : Int32)), .val (.int (7 : Int32)), .val (.ref b194), .val (.int (7 : Int32)), .val (.ref b201), .unset, .unset]) rfl ?_
  refine g_aload C at_231 (pc' := 233) rfl rfl rfl ?_
  refine g_virtual (rm := R_m_hasMore) (a := b201) C (y := (⟨"com/example/sigillum/sigillum/codec/DerReader", "hasMore", "()Z"⟩ : MethodName)) (y' := (⟨"com/example/sigillum/sigillum/codec/DerReader", "hasMore", "()Z"⟩ : MethodName)) (hw _ (List.mem_of_getElem? (i := 28) rfl)) (hw _ (List.mem_of_getElem? (i := 29) rfl)) (g_nf C (hw _ (List.mem_of_getElem? (i := 31) rfl))) (hw _ (List.mem_of_getElem? (i := 31) rfl)) (hw _ (List.mem_of_getElem? (i := 30) rfl)) (by decide) E_b201 at_233 (pc' := 236) rfl (argsL := []) (rest := []) (lenOf pd_1 rfl) rfl (W := 0) (Nat.le_of_eq rfl) rfl (fun hn9 => Met.back (rm := R_m_hasMore) (m_hasMore hw b201 (0 : Int32) (7 : Int32) F2_b201 F3_b201) hn9 C.hZ (hw _ (List.mem_of_getElem? (i := 32) rfl)) (hw _ (List.mem_of_getElem? (i := 2) rfl)) (by decide) (by decide)) (k' := 3) (n' := 19) rfl rfl (by decide) (by decide) ?_
  rintro _ _ ⟨rfl, rfl⟩
  show Go w l _ n0 _ h202 3 19 236 #[.val (.int p0), .val (.int p1), .val (.int p2), .val (.int p3), .val (.int (2 : Int32)), .val (.int (1 : Int32)), .val (.int (0 : Int32)), .val (.int (0 : Int32)), .val (.int (3 : Int32)), .val (.int (2 : Int32)), .val (.int (5 : Int32)), .val (.int (7 : Int32)), .val (.ref b194), .val (.int (7 : Int32)), .val (.ref b201), .unset, .unset] [(.int (1 : Int32))]
  refine g_istore C at_236 (pc' := 238) rfl (Ls' := #[.val (.int p0), .val (.int p1), .val (.int p2), .val (.int p3), .val (.int (2 : Int32)), .val (.int (1 : Int32)), .val (.int (0 : Int32)), .val (.int (0 : Int32)), .val (.int (3 : Int32)), .val (.int (2 : Int32)), .val (.int (5 : Int32)), .val (.int (7 : Int32)), .val (.ref b194), .val (.int (7 : Int32)), .val (.ref b201), .val (.int (1 : Int32)), .unset]) rfl ?_
  refine g_aload C at_238 (pc' := 240) rfl rfl rfl ?_
  refine g_virtual (rm := R_m_seq) (a := b201) C (y := (⟨"com/example/sigillum/sigillum/codec/DerReader", "sequence", "()Lcom/example/sigillum/sigillum/codec/DerReader;"⟩ : MethodName)) (y' := (⟨"com/example/sigillum/sigillum/codec/DerReader", "sequence", "()Lcom/example/sigillum/sigillum/codec/DerReader;"⟩ : MethodName)) (hw _ (List.mem_of_getElem? (i := 33) rfl)) (hw _ (List.mem_of_getElem? (i := 34) rfl)) (g_nf C (hw _ (List.mem_of_getElem? (i := 36) rfl))) (hw _ (List.mem_of_getElem? (i := 36) rfl)) (hw _ (List.mem_of_getElem? (i := 35) rfl)) (by decide) E_b201 at_240 (pc' := 243) rfl (argsL := []) (rest := []) (lenOf pd_11 rfl) rfl (W := 0) (Nat.le_of_eq rfl) rfl (fun hn9 => Met.back (rm := R_m_seq) (m_seq hw b201 t_b201 t_SEQUENCE (0 : Int32) (7 : Int32) (7 : Int32) (48 : Int32) (5 : Int32) (5 : Int32) (48 : Int32) (2 : Int32) (upd (upd (upd (upd (upd (upd (upd (fun _ => (.int 0)) 0 (.int (48 : Int32))) 1 (.int (5 : Int32))) 2 (.int (4 : Int32))) 3 (.int (1 : Int32))) 4 (.int (nar .byte (p1.toInt8.toInt32)))) 5 (.int (5 : Int32))) 6 (.int (0 : Int32))) (7 : Int32) ⟨E_b201, F1_b201, F2_b201, F3_b201⟩ At_b201 E_SEQUENCE F_SEQUENCE gb201 (Ne.symm ne_b201_t_b201) (by decide) (by decide) (by decide) rfl (by decide) (by decide) (by decide) (by decide) rfl (by decide) (by decide) (by decide) (by decide) (by decide) (S_SEQUENCE.ext X.2)) hn9 C.hZ (hw _ (List.mem_of_getElem? (i := 37) rfl)) (hw _ (List.mem_of_getElem? (i := 2) rfl)) (by decide) (by decide)) (k' := 4) (n' := 22) rfl rfl (by decide) (by decide) ?_
  rintro _ h203 ⟨sq, rfl, fsq, gsq, Ks, ⟨E_b201, F1_b201, F2_b201, F3_b201⟩, ⟨E_sq, F1_sq, F2_sq, F3_sq⟩⟩
  have ne_t_SEQUENCE_sq : t_SEQUENCE ≠ sq := Nat.ne_of_lt (Nat.lt_of_lt_of_le E_SEQUENCE.lt fsq)
  have ne_t_NULL_sq : t_NULL ≠ sq := Nat.ne_of_lt (Nat.lt_of_lt_of_le E_NULL.lt fsq)
  have ne_t_OCTET_STRING_sq : t_OCTET_STRING ≠ sq := Nat.ne_of_lt (Nat.lt_of_lt_of_le E_OCTET_STRING.lt fsq)
  have ne_b194_sq : b194 ≠ sq := Nat.ne_of_lt (Nat.lt_of_lt_of_le A194.lt fsq)
  have ne_t_b201_sq : t_b201 ≠ sq := Nat.ne_of_lt (Nat.lt_of_lt_of_le At_b201.lt fsq)
  have X := X.keep Ks (allS gb201 all0)
  have E_SEQUENCE := E_SEQUENCE.keep Ks
  have F_SEQUENCE := F_SEQUENCE.keep Ks (ninS ne_t_SEQUENCE_b201 nin0)
  have E_NULL := E_NULL.keep Ks
  have F_NULL := F_NULL.keep Ks (ninS ne_t_NULL_b201 nin0)
  have E_OCTET_STRING := E_OCTET_STRING.keep Ks
  have F_OCTET_STRING := F_OCTET_STRING.keep Ks (ninS ne_t_OCTET_STRING_b201 nin0)
  have A194 := A194.keep Ks (ninS ne_b194_b201 nin0)
  have At_b201 := At_b201.keep Ks (ninS (Ne.symm ne_b201_t_b201) nin0)
  show Go w l _ n0 _ h203 4 22 243 #[.val (.int p0), .val (.int p1), .val (.int p2), .val (.int p3), .val (.int (2 : Int32)), .val (.int (1 : Int32)), .val (.int (0 : Int32)), .val (.int (0 : Int32)), .val (.int (3 : Int32)), .val (.int (2 : Int32)), .val (.int (5 : Int32)), .val (.int (7 : Int32)), .val (.ref b194), .val (.int (7 : Int32)), .val (.ref b201), .val (.int (1 : Int32)), .unset] [(.ref sq)]
  refine g_astore C at_243 (pc' := 245) rfl rfl (Ls' := #[.val (.int p0), .val (.int p1), .val (.int p2), .val (.int p3), .val (.int (2 : Int32)), .val (.int (1 : Int32)), .val (.int (0 : Int32)), .val (.int (0 : Int32)), .val (.int (3 : Int32)), .val (.int (2 : Int32)), .val (.int (5 : Int32)), .val (.int (7 : Int32)), .val (.ref b194), .val (.int (7 : Int32)), .val (.ref b201), .val (.int (1 : Int32)), .val (.ref sq)]) rfl ?_
  refine g_iload C at_245 (pc' := 247) rfl rfl ?_
  refine g_if_eq C at_247 (by decide) (pc' := 264) (by decide) (pcN := 250) rfl (fun q => absurd q (by decide)) (fun _ => ?_)
  refine g_aload C at_250 (pc' := 252) rfl rfl rfl ?_
  refine g_virtual (rm := R_m_hasMore) (a := b201) C (y := (⟨"com/example/sigillum/sigillum/codec/DerReader", "hasMore", "()Z"⟩ : MethodName)) (y' := (⟨"com/example/sigillum/sigillum/codec/DerReader", "hasMore", "()Z"⟩ : MethodName)) (hw _ (List.mem_of_getElem? (i := 28) rfl)) (hw _ (List.mem_of_getElem? (i := 29) rfl)) (g_nf C (hw _ (List.mem_of_getElem? (i := 31) rfl))) (hw _ (List.mem_of_getElem? (i := 31) rfl)) (hw _ (List.mem_of_getElem? (i := 30) rfl)) (by decide) E_b201 at_252 (pc' := 255) rfl (argsL := []) (rest := []) (lenOf pd_1 rfl) rfl (W := 0) (Nat.le_of_eq rfl) rfl (fun hn9 => Met.back (rm := R_m_hasMore) (m_hasMore hw b201 (7 : Int32) (7 : Int32) F2_b201 F3_b201) hn9 C.hZ (hw _ (List.mem_of_getElem? (i := 32) rfl)) (hw _ (List.mem_of_getElem? (i := 2) rfl)) (by decide) (by decide)) (k' := 4) (n' := 22) rfl rfl (by decide) (by decide) ?_
  rintro _ _ ⟨rfl, rfl⟩
  show Go w l _ n0 _ h203 4 22 255 #[.val (.int p0), .val (.int p1), .val (.int p2), .val (.int p3), .val (.int (2 : Int32)), .val (.int (1 : Int32)), .val (.int (0 : Int32)), .val (.int (0 : Int32)), .val (.int (3 : Int32)), .val (.int (2 : Int32)), .val (.int (5 : Int32)), .val (.int (7 : Int32)), .val (.ref b194), .val (.int (7 : Int32)), .val (.ref b201), .val (.int (1 : Int32)), .val (.ref sq)] [(.int (0 : Int32))]
  refine g_iload C at_255 (pc' := 257) rfl rfl ?_
  refine g_icmp_ne C at_257 (by decide) (pc' := 264) (by decide) (pcN := 260) rfl (fun q => absurd rfl q) (fun _ => ?_)
  refine g_iconst C (z := (1 : Int32)) at_260 (pc' := 261) rfl rfl ?_
  refine g_goto C at_261 (by decide) (pc' := 265) (by decide) ?_
  refine g_istore C at_265 (pc' := 267) rfl (Ls' := #[.val (.int p0), .val (.int p1), .val (.int p2), .val (.int p3), .val (.int (2 : Int32)), .val (.int (1 : Int32)), .val (.int (0 : Int32)), .val (.int (0 : Int32)), .val (.int (3 : Int32)), .val (.int (2 : Int32)), .val (.int (5 : Int32)), .val (.int (7 : Int32)), .val (.ref b194), .val (.int (7 : Int32)), .val (.ref b201), .val (.int (1 : Int32)), .val (.ref sq)]) rfl ?_
  refine g_iload C at_267 (pc' := 269) rfl rfl ?_
  refine g_if_eq C at_269 (by decide) (pc' := 294) (by decide) (pcN := 272) rfl (fun q => absurd q (by decide)) (fun _ => ?_)
  refine g_aload C at_272 (pc' := 274) rfl rfl rfl ?_
  refine g_virtual (rm := R_m_hasMore) (a := sq) C (y := (⟨"com/example/sigillum/sigillum/codec/DerReader", "hasMore", "()Z"⟩ : MethodName)) (y' := (⟨"com/example/sigillum/sigillum/codec/DerReader", "hasMore", "()Z"⟩ : MethodName)) (hw _ (List.mem_of_getElem? (i := 28) rfl)) (hw _ (List.mem_of_getElem? (i := 29) rfl)) (g_nf C (hw _ (List.mem_of_getElem? (i := 31) rfl))) (hw _ (List.mem_of_getElem? (i := 31) rfl)) (hw _ (List.mem_of_getElem? (i := 30) rfl)) (by decide) E_sq at_274 (pc' := 277) rfl (argsL := []) (rest := []) (lenOf pd_1 rfl) rfl (W := 0) (Nat.le_of_eq rfl) rfl (fun hn9 => Met.back (rm := R_m_hasMore) (m_hasMore hw sq (2 : Int32) (7 : Int32) F2_sq F3_sq) hn9 C.hZ (hw _ (List.mem_of_getElem? (i := 32) rfl)) (hw _ (List.mem_of_getElem? (i := 2) rfl)) (by decide) (by decide)) (k' := 4) (n' := 22) rfl rfl (by decide) (by decide) ?_
  rintro _ _ ⟨rfl, rfl⟩
  show Go w l _ n0 _ h203 4 22 277 #[.val (.int p0), .val (.int p1), .val (.int p2), .val (.int p3), .val (.int (2 : Int32)), .val (.int (1 : Int32)), .val (.int (0 : Int32)), .val (.int (0 : Int32)), .val (.int (3 : Int32)), .val (.int (2 : Int32)), .val (.int (5 : Int32)), .val (.int (7 : Int32)), .val (.ref b194), .val (.int (7 : Int32)), .val (.ref b201), .val (.int (1 : Int32)), .val (.ref sq)] [(.int (1 : Int32))]
  refine g_iload C at_277 (pc' := 279) rfl rfl ?_
  refine g_if_le C at_279 (by decide) (pc' := 286) (by decide) (pcN := 282) rfl (fun q => absurd q (by decide)) (fun _ => ?_)
  refine g_iconst C (z := (1 : Int32)) at_282 (pc' := 283) rfl rfl ?_
  refine g_goto C at_283 (by decide) (pc' := 287) (by decide) ?_
  refine g_icmp_ne C at_287 (by decide) (pc' := 294) (by decide) (pcN := 290) rfl (fun q => absurd rfl q) (fun _ => ?_)
  refine g_iconst C (z := (1 : Int32)) at_290 (pc' := 291) rfl rfl ?_
  refine g_goto C at_291 (by decide) (pc' := 295) (by decide) ?_
  refine g_istore C at_295 (pc' := 297) rfl (Ls' := #[.val (.int p0), .val (.int p1), .val (.int p2), .val (.int p3), .val (.int (2 : Int32)), .val (.int (1 : Int32)), .val (.int (0 : Int32)), .val (.int (0 : Int32)), .val (.int (3 : Int32)), .val (.int (2 : Int32)), .val (.int (5 : Int32)), .val (.int (7 : Int32)), .val (.ref b194), .val (.int (7 : Int32)), .val (.ref b201), .val (.int (1 : Int32)), .val (.ref sq)]) rfl ?_
  refine g_iload C at_297 (pc' := 299) rfl rfl ?_
  refine g_if_le C at_299 (by decide) (pc' := 340) (by decide) (pcN := 302) rfl (fun q => absurd q (by decide)) (fun _ => ?_)
  refine g_aload C at_302 (pc' := 304) rfl rfl rfl ?_
  refine g_iload C at_304 (pc' := 306) rfl rfl ?_
  refine g_static (rm := R_m_read1) C (y := (⟨"com/example/sigillum/sigillum/codec/DerReaderHasMorePinLaw", "read", "(Lcom/example/sigillum/sigillum/codec/DerReader;Z)V"⟩ : MethodName)) (hw _ (List.mem_of_getElem? (i := 58) rfl)) (hw _ (List.mem_of_getElem? (i := 59) rfl)) (hw _ (List.mem_of_getElem? (i := 56) rfl)) (hw _ (List.mem_of_getElem? (i := 60) rfl)) (by decide) at_306 (pc' := 309) rfl (argsL := [(.ref sq), (.int (1 : Int32))]) (rest := []) (lenOf pd_13 rfl) rfl (W := 0) (Nat.le_of_eq rfl) rfl (fun hn9 => Met.back (rm := R_m_read1) (m_read1 hw sq t_b201 t_OCTET_STRING (2 : Int32) (7 : Int32) (7 : Int32) (4 : Int32) (1 : Int32) (1 : Int32) (4 : Int32) (4 : Int32) (upd (upd (upd (upd (upd (upd (upd (fun _ => (.int 0)) 0 (.int (48 : Int32))) 1 (.int (5 : Int32))) 2 (.int (4 : Int32))) 3 (.int (1 : Int32))) 4 (.int (nar .byte (p1.toInt8.toInt32)))) 5 (.int (5 : Int32))) 6 (.int (0 : Int32))) ⟨E_sq, F1_sq, F2_sq, F3_sq⟩ At_b201 E_OCTET_STRING F_OCTET_STRING gsq ne_t_b201_sq (by decide) (by decide) (by decide) rfl (by decide) (by decide) (by decide) (by decide) rfl (by decide) (by decide) (by decide) (by decide) (5 : Int32) (1 : Int32) (by decide) (by decide) (by decide) (by decide) (by decide) (by decide) (by decide) (by decide) (by decide) (by decide) (by decide) (S_OCTET_STRING.ext X.2)) hn9 C.hZ (hw _ (List.mem_of_getElem? (i := 60) rfl)) (hw _ (List.mem_of_getElem? (i := 56) rfl)) (by decide) (by decide)) (k' := 5) (n' := 25) rfl rfl (by decide) (by decide) ?_
  rintro _ h204 ⟨rfl, Kr, ⟨E_sq, F1_sq, F2_sq, F3_sq⟩⟩
  have X := X.keep Kr (allS gsq all0)
  have E_SEQUENCE := E_SEQUENCE.keep Kr
  have F_SEQUENCE := F_SEQUENCE.keep Kr (ninS ne_t_SEQUENCE_sq nin0)
  have E_NULL := E_NULL.keep Kr
  have F_NULL := F_NULL.keep Kr (ninS ne_t_NULL_sq nin0)
  have E_OCTET_STRING := E_OCTET_STRING.keep Kr
  have F_OCTET_STRING := F_OCTET_STRING.keep Kr (ninS ne_t_OCTET_STRING_sq nin0)
  have A194 := A194.keep Kr (ninS ne_b194_sq nin0)
  have At_b201 := At_b201.keep Kr (ninS ne_t_b201_sq nin0)
  have E_b201 := E_b201.keep Kr
  show Go w l _ n0 _ h204 5 25 309 #[.val (.int p0), .val (.int p1), .val (.int p2), .val (.int p3), .val (.int (2 : Int32)), .val (.int (1 : Int32)), .val (.int (0 : Int32)), .val (.int (0 : Int32)), .val (.int (3 : Int32)), .val (.int (2 : Int32)), .val (.int (5 : Int32)), .val (.int (7 : Int32)), .val (.ref b194), .val (.int (7 : Int32)), .val (.ref b201), .val (.int (1 : Int32)), .val (.ref sq)] []
  refine g_iload C at_309 (pc' := 311) rfl rfl ?_
  refine g_if_eq C at_311 (by decide) (pc' := 337) (by decide) (pcN := 314) rfl (fun q => absurd q (by decide)) (fun _ => ?_)
  refine g_aload C at_314 (pc' := 316) rfl rfl rfl ?_
  refine g_virtual (rm := R_m_hasMore) (a := sq) C (y := (⟨"com/example/sigillum/sigillum/codec/DerReader", "hasMore", "()Z"⟩ : MethodName)) (y' := (⟨"com/example/sigillum/sigillum/codec/DerReader", "hasMore", "()Z"⟩ : MethodName)) (hw _ (List.mem_of_getElem? (i := 28) rfl)) (hw _ (List.mem_of_getElem? (i := 29) rfl)) (g_nf C (hw _ (List.mem_of_getElem? (i := 31) rfl))) (hw _ (List.mem_of_getElem? (i := 31) rfl)) (hw _ (List.mem_of_getElem? (i := 30) rfl)) (by decide) E_sq at_316 (pc' := 319) rfl (argsL := []) (rest := []) (lenOf pd_1 rfl) rfl (W := 0) (Nat.le_of_eq rfl) rfl (fun hn9 => Met.back (rm := R_m_hasMore) (m_hasMore hw sq (5 : Int32) (7 : Int32) F2_sq F3_sq) hn9 C.hZ (hw _ (List.mem_of_getElem? (i := 32) rfl)) (hw _ (List.mem_of_getElem? (i := 2) rfl)) (by decide) (by decide)) (k' := 5) (n' := 25) rfl rfl (by decide) (by decide) ?_
  rintro _ _ ⟨rfl, rfl⟩
  show Go w l _ n0 _ h204 5 25 319 #[.val (.int p0), .val (.int p1), .val (.int p2), .val (.int p3), .val (.int (2 : Int32)), .val (.int (1 : Int32)), .val (.int (0 : Int32)), .val (.int (0 : Int32)), .val (.int (3 : Int32)), .val (.int (2 : Int32)), .val (.int (5 : Int32)), .val (.int (7 : Int32)), .val (.ref b194), .val (.int (7 : Int32)), .val (.ref b201), .val (.int (1 : Int32)), .val (.ref sq)] [(.int (1 : Int32))]
  refine g_iload C at_319 (pc' := 321) rfl rfl ?_
  refine g_iconst C (z := (1 : Int32)) at_321 (pc' := 322) rfl rfl ?_
  refine g_icmp_le C at_322 (by decide) (pc' := 329) (by decide) (pcN := 325) rfl (fun q => absurd q (by decide)) (fun _ => ?_)
  refine g_iconst C (z := (1 : Int32)) at_325 (pc' := 326) rfl rfl ?_
  refine g_goto C at_326 (by decide) (pc' := 330) (by decide) ?_
  refine g_icmp_ne C at_330 (by decide) (pc' := 337) (by decide) (pcN := 333) rfl (fun q => absurd rfl q) (fun _ => ?_)
  refine g_iconst C (z := (1 : Int32)) at_333 (pc' := 334) rfl rfl ?_
  refine g_goto C at_334 (by decide) (pc' := 338) (by decide) ?_
  refine g_istore C at_338 (pc' := 340) rfl (Ls' := #[.val (.int p0), .val (.int p1), .val (.int p2), .val (.int p3), .val (.int (2 : Int32)), .val (.int (1 : Int32)), .val (.int (0 : Int32)), .val (.int (0 : Int32)), .val (.int (3 : Int32)), .val (.int (2 : Int32)), .val (.int (5 : Int32)), .val (.int (7 : Int32)), .val (.ref b194), .val (.int (7 : Int32)), .val (.ref b201), .val (.int (1 : Int32)), .val (.ref sq)]) rfl ?_
  refine g_iload C at_340 (pc' := 342) rfl rfl ?_
  refine g_iconst C (z := (1 : Int32)) at_342 (pc' := 343) rfl rfl ?_
  refine g_icmp_le C at_343 (by decide) (pc' := 373) (by decide) (pcN := 346) rfl (fun q => absurd q (by decide)) (fun _ => ?_)
  refine g_aload C at_346 (pc' := 348) rfl rfl rfl ?_
  refine g_iload C at_348 (pc' := 350) rfl rfl ?_
  refine g_static (rm := R_m_read0) C (y := (⟨"com/example/sigillum/sigillum/codec/DerReaderHasMorePinLaw", "read", "(Lcom/example/sigillum/sigillum/codec/DerReader;Z)V"⟩ : MethodName)) (hw _ (List.mem_of_getElem? (i := 58) rfl)) (hw _ (List.mem_of_getElem? (i := 59) rfl)) (hw _ (List.mem_of_getElem? (i := 56) rfl)) (hw _ (List.mem_of_getElem? (i := 60) rfl)) (by decide) at_350 (pc' := 353) rfl (argsL := [(.ref sq), (.int (0 : Int32))]) (rest := []) (lenOf pd_13 rfl) rfl (W := 0) (Nat.le_of_eq rfl) rfl (fun hn9 => Met.back (rm := R_m_read0) (m_read0 hw sq t_b201 t_NULL (5 : Int32) (7 : Int32) (7 : Int32) (5 : Int32) (0 : Int32) (0 : Int32) (5 : Int32) (7 : Int32) (upd (upd (upd (upd (upd (upd (upd (fun _ => (.int 0)) 0 (.int (48 : Int32))) 1 (.int (5 : Int32))) 2 (.int (4 : Int32))) 3 (.int (1 : Int32))) 4 (.int (nar .byte (p1.toInt8.toInt32)))) 5 (.int (5 : Int32))) 6 (.int (0 : Int32))) ⟨E_sq, F1_sq, F2_sq, F3_sq⟩ At_b201 E_NULL F_NULL gsq ne_t_b201_sq (by decide) (by decide) (by decide) rfl (by decide) (by decide) (by decide) (by decide) rfl (by decide) (by decide) (by decide) (by decide) (7 : Int32) (0 : Int32) (by decide) (by decide) (by decide) (by decide) (by decide) (by decide) (by decide) (by decide) (by decide) (by decide) (by decide) (by decide) (S_NULL.ext X.2)) hn9 C.hZ (hw _ (List.mem_of_getElem? (i := 60) rfl)) (hw _ (List.mem_of_getElem? (i := 56) rfl)) (by decide) (by decide)) (k' := 6) (n' := 28) rfl rfl (by decide) (by decide) ?_
  rintro _ h205 ⟨rfl, Kr, ⟨E_sq, F1_sq, F2_sq, F3_sq⟩⟩
  have X := X.keep Kr (allS gsq all0)
  have E_SEQUENCE := E_SEQUENCE.keep Kr
  have F_SEQUENCE := F_SEQUENCE.keep Kr (ninS ne_t_SEQUENCE_sq nin0)
  have E_NULL := E_NULL.keep Kr
  have F_NULL := F_NULL.keep Kr (ninS ne_t_NULL_sq nin0)
  have E_OCTET_STRING := E_OCTET_STRING.keep Kr
  have F_OCTET_STRING := F_OCTET_STRING.keep Kr (ninS ne_t_OCTET_STRING_sq nin0)
  have A194 := A194.keep Kr (ninS ne_b194_sq nin0)
  have At_b201 := At_b201.keep Kr (ninS ne_t_b201_sq nin0)
  have E_b201 := E_b201.keep Kr
  show Go w l _ n0 _ h205 6 28 353 #[.val (.int p0), .val (.int p1), .val (.int p2), .val (.int p3), .val (.int (2 : Int32)), .val (.int (1 : Int32)), .val (.int (0 : Int32)), .val (.int (0 : Int32)), .val (.int (3 : Int32)), .val (.int (2 : Int32)), .val (.int (5 : Int32)), .val (.int (7 : Int32)), .val (.ref b194), .val (.int (7 : Int32)), .val (.ref b201), .val (.int (1 : Int32)), .val (.ref sq)] []
  refine g_iload C at_353 (pc' := 355) rfl rfl ?_
  refine g_if_eq C at_355 (by decide) (pc' := 370) (by decide) (pcN := 358) rfl (fun q => absurd q (by decide)) (fun _ => ?_)
  refine g_aload C at_358 (pc' := 360) rfl rfl rfl ?_
  refine g_virtual (rm := R_m_hasMore) (a := sq) C (y := (⟨"com/example/sigillum/sigillum/codec/DerReader", "hasMore", "()Z"⟩ : MethodName)) (y' := (⟨"com/example/sigillum/sigillum/codec/DerReader", "hasMore", "()Z"⟩ : MethodName)) (hw _ (List.mem_of_getElem? (i := 28) rfl)) (hw _ (List.mem_of_getElem? (i := 29) rfl)) (g_nf C (hw _ (List.mem_of_getElem? (i := 31) rfl))) (hw _ (List.mem_of_getElem? (i := 31) rfl)) (hw _ (List.mem_of_getElem? (i := 30) rfl)) (by decide) E_sq at_360 (pc' := 363) rfl (argsL := []) (rest := []) (lenOf pd_1 rfl) rfl (W := 0) (Nat.le_of_eq rfl) rfl (fun hn9 => Met.back (rm := R_m_hasMore) (m_hasMore hw sq (7 : Int32) (7 : Int32) F2_sq F3_sq) hn9 C.hZ (hw _ (List.mem_of_getElem? (i := 32) rfl)) (hw _ (List.mem_of_getElem? (i := 2) rfl)) (by decide) (by decide)) (k' := 6) (n' := 28) rfl rfl (by decide) (by decide) ?_
  rintro _ _ ⟨rfl, rfl⟩
  show Go w l _ n0 _ h205 6 28 363 #[.val (.int p0), .val (.int p1), .val (.int p2), .val (.int p3), .val (.int (2 : Int32)), .val (.int (1 : Int32)), .val (.int (0 : Int32)), .val (.int (0 : Int32)), .val (.int (3 : Int32)), .val (.int (2 : Int32)), .val (.int (5 : Int32)), .val (.int (7 : Int32)), .val (.ref b194), .val (.int (7 : Int32)), .val (.ref b201), .val (.int (1 : Int32)), .val (.ref sq)] [(.int (0 : Int32))]
  refine g_if_ne C at_363 (by decide) (pc' := 370) (by decide) (pcN := 366) rfl (fun q => absurd rfl q) (fun _ => ?_)
  refine g_iconst C (z := (1 : Int32)) at_366 (pc' := 367) rfl rfl ?_
  refine g_goto C at_367 (by decide) (pc' := 371) (by decide) ?_
  refine g_istore C at_371 (pc' := 373) rfl (Ls' := #[.val (.int p0), .val (.int p1), .val (.int p2), .val (.int p3), .val (.int (2 : Int32)), .val (.int (1 : Int32)), .val (.int (0 : Int32)), .val (.int (0 : Int32)), .val (.int (3 : Int32)), .val (.int (2 : Int32)), .val (.int (5 : Int32)), .val (.int (7 : Int32)), .val (.ref b194), .val (.int (7 : Int32)), .val (.ref b201), .val (.int (1 : Int32)), .val (.ref sq)]) rfl ?_
  refine g_iload C at_373 (pc' := 375) rfl rfl ?_
  exact g_retN C (t := .boolean) rfl (by simp) at_375 rfl (by decide) (by decide)
set_option maxRecDepth 65536 in
set_option maxHeartbeats 40000000 in
theorem seg82_2101 {l : Launch} {Z : State} {a0 : Array Value} (hw : ∀ d ∈ tables_1, d.before a0 Z = true) {w : Wk} {n0 : Nat} {h0 : Heap} {Y : State → Outcome → Prop} (p0 p1 p2 p3 : Int32) (t_SEQUENCE t_NULL t_OCTET_STRING : Addr) (C : Cx w Z "com/example/sigillum/sigillum/codec/DerReaderHasMorePinLaw" code 17 (some .boolean) "law" room_1 n0 (fun v _ => v = some (.int 1)) Y) (X : Old Z n0 h0) (S_SEQUENCE : Sta Z Z.heap "com/example/sigillum/sigillum/codec/DerTag" "SEQUENCE" "Lcom/example/sigillum/sigillum/codec/DerTag;" (.ref t_SEQUENCE)) (E_SEQUENCE : Exa Z h0 t_SEQUENCE "com/example/sigillum/sigillum/codec/DerTag") (F_SEQUENCE : Fld Z h0 t_SEQUENCE "com/example/sigillum/sigillum/codec/DerTag" "identifier" "I" (.int 48)) (S_NULL : Sta Z Z.heap "com/example/sigillum/sigillum/codec/DerTag" "NULL" "Lcom/example/sigillum/sigillum/codec/DerTag;" (.ref t_NULL)) (E_NULL : Exa Z h0 t_NULL "com/example/sigillum/sigillum/codec/DerTag") (F_NULL : Fld Z h0 t_NULL "com/example/sigillum/sigillum/codec/DerTag" "identifier" "I" (.int 5)) (S_OCTET_STRING : Sta Z Z.heap "com/example/sigillum/sigillum/codec/DerTag" "OCTET_STRING" "Lcom/example/sigillum/sigillum/codec/DerTag;" (.ref t_OCTET_STRING)) (E_OCTET_STRING : Exa Z h0 t_OCTET_STRING "com/example/sigillum/sigillum/codec/DerTag") (F_OCTET_STRING : Fld Z h0 t_OCTET_STRING "com/example/sigillum/sigillum/codec/DerTag" "identifier" "I" (.int 4)) :
    Go w l room_1 n0 Y h0 0 0 82 #[.val (.int p0), .val (.int p1), .val (.int p2), .val (.int p3), .val (.int (2 : Int32)), .val (.int (1 : Int32)), .val (.int (0 : Int32)), .val (.int (1 : Int32)), .unset, .unset, .unset, .unset, .unset, .unset, .unset, .unset, .unset] [] := by
  refine g_iload C at_82 (pc' := 84) rfl rfl ?_
  refine g_if_le C at_84 (by decide) (pc' := 100) (by decide) (pcN := 87) rfl (fun q => absurd q (by decide)) (fun _ => ?_)
  refine g_iload C at_87 (pc' := 89) rfl rfl ?_
  refine g_if_eq C at_89 (by decide) (pc' := 96) (by decide) (pcN := 92) rfl (fun q => absurd q (by decide)) (fun _ => ?_)
  refine g_iconst C (z := (3 : Int32)) at_92 (pc' := 93) rfl rfl ?_
  refine g_goto C at_93 (by decide) (pc' := 101) (by decide) ?_
  refine g_istore C at_101 (pc' := 103) rfl (Ls' := #[.val (.int p0), .val (.int p1), .val (.int p2), .val (.int p3), .val (.int (2 : Int32)), .val (.int (1 : Int32)), .val (.int (0 : Int32)), .val (.int (1 : Int32)), .val (.int (3 : Int32)), .unset, .unset, .unset, .unset, .unset, .unset, .unset, .unset]) rfl ?_
  refine g_iload C at_103 (pc' := 105) rfl rfl ?_
  refine g_iconst C (z := (1 : Int32)) at_105 (pc' := 106) rfl rfl ?_
  refine g_icmp_le C at_106 (by decide) (pc' := 122) (by decide) (pcN := 109) rfl (fun q => absurd q (by decide)) (fun _ => ?_)
  refine g_iload C at_109 (pc' := 111) rfl rfl ?_
  refine g_if_eq C at_111 (by decide) (pc' := 118) (by decide) (pcN := 114) rfl (fun _ => ?_) (fun q => absurd rfl q)
  refine g_iconst C (z := (2 : Int32)) at_118 (pc' := 119) rfl rfl ?_
  refine g_goto C at_119 (by decide) (pc' := 123) (by decide) ?_
  refine g_istore C at_123 (pc' := 125) rfl (Ls' := #[.val (.int p0), .val (.int p1), .val (.int p2), .val (.int p3), .val (.int (2 : Int32)), .val (.int (1 : Int32)), .val (.int (0 : Int32)), .val (.int (1 : Int32)), .val (.int (3 : Int32)), .val (.int (2 : Int32)), .unset, .unset, .unset, .unset, .unset, .unset, .unset]) rfl ?_
  refine g_iload C at_125 (pc' := 127) rfl rfl ?_
  refine g_iload C at_127 (pc' := 129) rfl rfl ?_
  refine g_iadd C at_129 (pc' := 130) rfl ?_
  show Go w l _ n0 _ h0 0 0 130 #[.val (.int p0), .val (.int p1), .val (.int p2), .val (.int p3), .val (.int (2 : Int32)), .val (.int (1 : Int32)), .val (.int (0 : Int32)), .val (.int (1 : Int32)), .val (.int (3 : Int32)), .val (.int (2 : Int32)), .unset, .unset, .unset, .unset, .unset, .unset, .unset] [(.int (5 : Int32))]
  refine g_istore C at_130 (pc' := 132) rfl (Ls' := #[.val (.int p0), .val (.int p1), .val (.int p2), .val (.int p3), .val (.int (2 : Int32)), .val (.int (1 : Int32)), .val (.int (0 : Int32)), .val (.int (1 : Int32)), .val (.int (3 : Int32)), .val (.int (2 : Int32)), .val (.int (5 : Int32)), .unset, .unset, .unset, .unset, .unset, .unset]) rfl ?_
  refine g_iconst C (z := (2 : Int32)) at_132 (pc' := 133) rfl rfl ?_
  refine g_iload C at_133 (pc' := 135) rfl rfl ?_
  refine g_iadd C at_135 (pc' := 136) rfl ?_
  show Go w l _ n0 _ h0 0 0 136 #[.val (.int p0), .val (.int p1), .val (.int p2), .val (.int p3), .val (.int (2 : Int32)), .val (.int (1 : Int32)), .val (.int (0 : Int32)), .val (.int (1 : Int32)), .val (.int (3 : Int32)), .val (.int (2 : Int32)), .val (.int (5 : Int32)), .unset, .unset, .unset, .unset, .unset, .unset] [(.int (7 : Int32))]
  refine g_iload C at_136 (pc' := 138) rfl rfl ?_
  refine g_if_eq C at_138 (by decide) (pc' := 145) (by decide) (pcN := 141) rfl (fun q => absurd q (by decide)) (fun _ => ?_)
  refine g_iconst C (z := (1 : Int32)) at_141 (pc' := 142) rfl rfl ?_
  refine g_goto C at_142 (by decide) (pc' := 146) (by decide) ?_
  refine g_iadd C at_146 (pc' := 147) rfl ?_
  show Go w l _ n0 _ h0 0 0 147 #[.val (.int p0), .val (.int p1), .val (.int p2), .val (.int p3), .val (.int (2 : Int32)), .val (.int (1 : Int32)), .val (.int (0 : Int32)), .val (.int (1 : Int32)), .val (.int (3 : Int32)), .val (.int (2 : Int32)), .val (.int (5 : Int32)), .unset, .unset, .unset, .unset, .unset, .unset] [(.int (8 : Int32))]
  refine g_istore C at_147 (pc' := 149) rfl (Ls' := #[.val (.int p0), .val (.int p1), .val (.int p2), .val (.int p3), .val (.int (2 : Int32)), .val (.int (1 : Int32)), .val (.int (0 : Int32)), .val (.int (1 : Int32)), .val (.int (3 : Int32)), .val (.int (2 : Int32)), .val (.int (5 : Int32)), .val (.int (8 : Int32)), .unset, .unset, .unset, .unset, .unset]) rfl ?_
  refine g_iload C at_149 (pc' := 151) rfl rfl ?_
  refine g_newarr C (ad := "[B") (cap := 8) (hw _ (List.mem_of_getElem? (i := 3) rfl)) at_151 (pc' := 153) rfl rfl (by decide) (by decide) (by decide) (k' := 1) (n' := 8) rfl rfl (by decide) (by decide) rfl ?_
  intro h206 b206 E206 fb206 gb206 A206
  have ne_t_SEQUENCE_b206 : t_SEQUENCE ≠ b206 := Nat.ne_of_lt (Nat.lt_of_lt_of_le E_SEQUENCE.lt fb206)
  have ne_t_NULL_b206 : t_NULL ≠ b206 := Nat.ne_of_lt (Nat.lt_of_lt_of_le E_NULL.lt fb206)
  have ne_t_OCTET_STRING_b206 : t_OCTET_STRING ≠ b206 := Nat.ne_of_lt (Nat.lt_of_lt_of_le E_OCTET_STRING.lt fb206)
  have X := X.ext E206
  have E_SEQUENCE := E_SEQUENCE.ext E206
  have F_SEQUENCE := F_SEQUENCE.ext E206
  have E_NULL := E_NULL.ext E206
  have F_NULL := F_NULL.ext E206
  have E_OCTET_STRING := E_OCTET_STRING.ext E206
  have F_OCTET_STRING := F_OCTET_STRING.ext E206
  have A206 : Arf Z h206 b206 "[B" .byte (8 : Int32) (fun _ => (.int 0)) := A206
  refine g_astore C at_153 (pc' := 155) rfl rfl (Ls' := #[.val (.int p0), .val (.int p1), .val (.int p2), .val (.int p3), .val (.int (2 : Int32)), .val (.int (1 : Int32)), .val (.int (0 : Int32)), .val (.int (1 : Int32)), .val (.int (3 : Int32)), .val (.int (2 : Int32)), .val (.int (5 : Int32)), .val (.int (8 : Int32)), .val (.ref b206), .unset, .unset, .unset, .unset]) rfl ?_
  refine g_aload C at_155 (pc' := 157) rfl rfl rfl ?_
  refine g_iconst C (z := (0 : Int32)) at_157 (pc' := 158) rfl rfl ?_
  refine g_bipush C (z := (48 : Int32)) at_158 (pc' := 160) rfl rfl ?_
  refine g_bastore C A206 (by decide) (by decide) at_160 (pc' := 161) rfl gb206 (fun h207 W208 A206' => ?_)
  have X := X.wr W208 gb206
  have E_SEQUENCE := E_SEQUENCE.wr W208
  have F_SEQUENCE := F_SEQUENCE.other W208 (Or.inl ne_t_SEQUENCE_b206)
  have E_NULL := E_NULL.wr W208
  have F_NULL := F_NULL.other W208 (Or.inl ne_t_NULL_b206)
  have E_OCTET_STRING := E_OCTET_STRING.wr W208
  have F_OCTET_STRING := F_OCTET_STRING.other W208 (Or.inl ne_t_OCTET_STRING_b206)
  have A206 : Arf Z h207 b206 "[B" .byte (8 : Int32) (upd (fun _ => (.int 0)) 0 (.int (48 : Int32))) := A206'
  refine g_aload C at_161 (pc' := 163) rfl rfl rfl ?_
  refine g_iconst C (z := (1 : Int32)) at_163 (pc' := 164) rfl rfl ?_
  refine g_iload C at_164 (pc' := 166) rfl rfl ?_
  refine g_i2b C at_166 (pc' := 167) rfl ?_
  show Go w l _ n0 _ h207 1 8 167 #[.val (.int p0), .val (.int p1), .val (.int p2), .val (.int p3), .val (.int (2 : Int32)), .val (.int (1 : Int32)), .val (.int (0 : Int32)), .val (.int (1 : Int32)), .val (.int (3 : Int32)), .val (.int (2 : Int32)), .val (.int (5 : Int32)), .val (.int (8 : Int32)), .val (.ref b206), .unset, .unset, .unset, .unset] [(.int (5 : Int32)), (.int (1 : Int32)), (.ref b206)]
  refine g_bastore C A206 (by decide) (by decide) at_167 (pc' := 168) rfl gb206 (fun h209 W210 A206' => ?_)
  have X := X.wr W210 gb206
  have E_SEQUENCE := E_SEQUENCE.wr W210
  have F_SEQUENCE := F_SEQUENCE.other W210 (Or.inl ne_t_SEQUENCE_b206)
  have E_NULL := E_NULL.wr W210
  have F_NULL := F_NULL.other W210 (Or.inl ne_t_NULL_b206)
  have E_OCTET_STRING := E_OCTET_STRING.wr W210
  have F_OCTET_STRING := F_OCTET_STRING.other W210 (Or.inl ne_t_OCTET_STRING_b206)
  have A206 : Arf Z h209 b206 "[B" .byte (8 : Int32) (upd (upd (fun _ => (.int 0)) 0 (.int (48 : Int32))) 1 (.int (5 : Int32))) := A206'
  refine g_iconst C (z := (2 : Int32)) at_168 (pc' := 169) rfl rfl ?_
  refine g_istore C at_169 (pc' := 171) rfl (Ls' := #[.val (.int p0), .val (.int p1), .val (.int p2), .val (.int p3), .val (.int (2 : Int32)), .val (.int (1 : Int32)), .val (.int (0 : Int32)), .val (.int (1 : Int32)), .val (.int (3 : Int32)), .val (.int (2 : Int32)), .val (.int (5 : Int32)), .val (.int (8 : Int32)), .val (.ref b206), .val (.int (2 : Int32)), .unset, .unset, .unset]) rfl ?_
  refine g_iload C at_171 (pc' := 173) rfl rfl ?_
  refine g_if_le C at_173 (by decide) (pc' := 189) (by decide) (pcN := 176) rfl (fun q => absurd q (by decide)) (fun _ => ?_)
  refine g_aload C at_176 (pc' := 178) rfl rfl rfl ?_
  refine g_iload C at_178 (pc' := 180) rfl rfl ?_
  refine g_iload C at_180 (pc' := 182) rfl rfl ?_
  refine g_iloadN C at_182 (pc' := 183) rfl rfl ?_
  refine g_i2b C at_183 (pc' := 184) rfl ?_
  refine g_static (rm := R_m_put1) C (y := (⟨"com/example/sigillum/sigillum/codec/DerReaderHasMorePinLaw", "put", "([BIZB)I"⟩ : MethodName)) (hw _ (List.mem_of_getElem? (i := 54) rfl)) (hw _ (List.mem_of_getElem? (i := 55) rfl)) (hw _ (List.mem_of_getElem? (i := 56) rfl)) (hw _ (List.mem_of_getElem? (i := 57) rfl)) (by decide) at_184 (pc' := 187) rfl (argsL := [(.ref b206), (.int (2 : Int32)), (.int (1 : Int32)), (.int (p1.toInt8.toInt32))]) (rest := []) (lenOf pd_12 rfl) rfl (W := 0) (Nat.le_of_eq rfl) rfl (fun hn9 => Met.back (rm := R_m_put1) (m_put1 hw b206 (2 : Int32) (p1.toInt8.toInt32) (8 : Int32) (upd (upd (fun _ => (.int 0)) 0 (.int (48 : Int32))) 1 (.int (5 : Int32))) A206 gb206 (by decide) (by decide) (by decide) (by decide) (by decide) (by decide)) hn9 C.hZ (hw _ (List.mem_of_getElem? (i := 57) rfl)) (hw _ (List.mem_of_getElem? (i := 56) rfl)) (by decide) (by decide)) (k' := 1) (n' := 8) rfl rfl (by decide) (by decide) ?_
  rintro _ h211 ⟨rfl, Kp, Ap⟩
  have X := X.keep Kp (allS gb206 all0)
  have E_SEQUENCE := E_SEQUENCE.keep Kp
  have F_SEQUENCE := F_SEQUENCE.keep Kp (ninS ne_t_SEQUENCE_b206 nin0)
  have E_NULL := E_NULL.keep Kp
  have F_NULL := F_NULL.keep Kp (ninS ne_t_NULL_b206 nin0)
  have E_OCTET_STRING := E_OCTET_STRING.keep Kp
  have F_OCTET_STRING := F_OCTET_STRING.keep Kp (ninS ne_t_OCTET_STRING_b206 nin0)
  have A206 : Arf Z h211 b206 "[B" .byte (8 : Int32) (upd (upd (upd (upd (upd (fun _ => (.int 0)) 0 (.int (48 : Int32))) 1 (.int (5 : Int32))) 2 (.int (4 : Int32))) 3 (.int (1 : Int32))) 4 (.int (nar .byte (p1.toInt8.toInt32)))) := Ap
  show Go w l _ n0 _ h211 1 8 187 #[.val (.int p0), .val (.int p1), .val (.int p2), .val (.int p3), .val (.int (2 : Int32)), .val (.int (1 : Int32)), .val (.int (0 : Int32)), .val (.int (1 : Int32)), .val (.int (3 : Int32)), .val (.int (2 : Int32)), .val (.int (5 : Int32)), .val (.int (8 : Int32)), .val (.ref b206), .val (.int (2 : Int32)), .unset, .unset, .unset] [(.int (5 : Int32))]
  refine g_istore C at_187 (pc' := 189) rfl (Ls' := #[.val (.int p0), .val (.int p1), .val (.int p2), .val (.int p3), .val (.int (2 : Int32)), .val (.int (1 : Int32)), .val (.int (0 : Int32)), .val (.int (1 : Int32)), .val (.int (3 : Int32)), .val (.int (2 : Int32)), .val (.int (5 : Int32)), .val (.int (8 : Int32)), .val (.ref b206), .val (.int (5 : Int32)), .unset, .unset, .unset]) rfl ?_
  refine g_iload C at_189 (pc' := 191) rfl rfl ?_
  refine g_iconst C (z := (1 : Int32)) at_191 (pc' := 192) rfl rfl ?_
  refine g_icmp_le C at_192 (by decide) (pc' := 208) (by decide) (pcN := 195) rfl (fun q => absurd q (by decide)) (fun _ => ?_)
  refine g_aload C at_195 (pc' := 197) rfl rfl rfl ?_
  refine g_iload C at_197 (pc' := 199) rfl rfl ?_
  refine g_iload C at_199 (pc' := 201) rfl rfl ?_
  refine g_iloadN C at_201 (pc' := 202) rfl rfl ?_
  refine g_i2b C at_202 (pc' := 203) rfl ?_
  refine g_static (rm := R_m_put0) C (y := (⟨"com/example/sigillum/sigillum/codec/DerReaderHasMorePinLaw", "put", "([BIZB)I"⟩ : MethodName)) (hw _ (List.mem_of_getElem? (i := 54) rfl)) (hw _ (List.mem_of_getElem? (i := 55) rfl)) (hw _ (List.mem_of_getElem? (i := 56) rfl)) (hw _ (List.mem_of_getElem? (i := 57) rfl)) (by decide) at_203 (pc' := 206) rfl (argsL := [(.ref b206), (.int (5 : Int32)), (.int (0 : Int32)), (.int (p2.toInt8.toInt32))]) (rest := []) (lenOf pd_12 rfl) rfl (W := 0) (Nat.le_of_eq rfl) rfl (fun hn9 => Met.back (rm := R_m_put0) (m_put0 hw b206 (5 : Int32) (p2.toInt8.toInt32) (8 : Int32) (upd (upd (upd (upd (upd (fun _ => (.int 0)) 0 (.int (48 : Int32))) 1 (.int (5 : Int32))) 2 (.int (4 : Int32))) 3 (.int (1 : Int32))) 4 (.int (nar .byte (p1.toInt8.toInt32)))) A206 gb206 (by decide) (by decide) (by decide) (by decide)) hn9 C.hZ (hw _ (List.mem_of_getElem? (i := 57) rfl)) (hw _ (List.mem_of_getElem? (i := 56) rfl)) (by decide) (by decide)) (k' := 1) (n' := 8) rfl rfl (by decide) (by decide) ?_
  rintro _ h212 ⟨rfl, Kp, Ap⟩
  have X := X.keep Kp (allS gb206 all0)
  have E_SEQUENCE := E_SEQUENCE.keep Kp
  have F_SEQUENCE := F_SEQUENCE.keep Kp (ninS ne_t_SEQUENCE_b206 nin0)
  have E_NULL := E_NULL.keep Kp
  have F_NULL := F_NULL.keep Kp (ninS ne_t_NULL_b206 nin0)
  have E_OCTET_STRING := E_OCTET_STRING.keep Kp
  have F_OCTET_STRING := F_OCTET_STRING.keep Kp (ninS ne_t_OCTET_STRING_b206 nin0)
  have A206 : Arf Z h212 b206 "[B" .byte (8 : Int32) (upd (upd (upd (upd (upd (upd (upd (fun _ => (.int 0)) 0 (.int (48 : Int32))) 1 (.int (5 : Int32))) 2 (.int (4 : Int32))) 3 (.int (1 : Int32))) 4 (.int (nar .byte (p1.toInt8.toInt32)))) 5 (.int (5 : Int32))) 6 (.int (0 : Int32))) := Ap
  show Go w l _ n0 _ h212 1 8 206 #[.val (.int p0), .val (.int p1), .val (.int p2), .val (.int p3), .val (.int (2 : Int32)), .val (.int (1 : Int32)), .val (.int (0 : Int32)), .val (.int (1 : Int32)), .val (.int (3 : Int32)), .val (.int (2 : Int32)), .val (.int (5 : Int32)), .val (.int (8 : Int32)), .val (.ref b206), .val (.int (5 : Int32)), .unset, .unset, .unset] [(.int (7 : Int32))]
  refine g_istore C at_206 (pc' := 208) rfl (Ls' := #[.val (.int p0), .val (.int p1), .val (.int p2), .val (.int p3), .val (.int (2 : Int32)), .val (.int (1 : Int32)), .val (.int (0 : Int32)), .val (.int (1 : Int32)), .val (.int (3 : Int32)), .val (.int (2 : Int32)), .val (.int (5 : Int32)), .val (.int (8 : Int32)), .val (.ref b206), .val (.int (7 : Int32)), .unset, .unset, .unset]) rfl ?_
  refine g_iload C at_208 (pc' := 210) rfl rfl ?_
  refine g_if_eq C at_210 (by decide) (pc' := 220) (by decide) (pcN := 213) rfl (fun q => absurd q (by decide)) (fun _ => ?_)
  refine g_aload C at_213 (pc' := 215) rfl rfl rfl ?_
  refine g_iload C at_215 (pc' := 217) rfl rfl ?_
  refine g_iloadN C at_217 (pc' := 218) rfl rfl ?_
  refine g_i2b C at_218 (pc' := 219) rfl ?_
  refine g_bastore C A206 (by decide) (by decide) at_219 (pc' := 220) rfl gb206 (fun h213 W214 A206' => ?_)
  have X := X.wr W214 gb206
  have E_SEQUENCE := E_SEQUENCE.wr W214
  have F_SEQUENCE := F_SEQUENCE.other W214 (Or.inl ne_t_SEQUENCE_b206)
  have E_NULL := E_NULL.wr W214
  have F_NULL := F_NULL.other W214 (Or.inl ne_t_NULL_b206)
  have E_OCTET_STRING := E_OCTET_STRING.wr W214
  have F_OCTET_STRING := F_OCTET_STRING.other W214 (Or.inl ne_t_OCTET_STRING_b206)
  have A206 : Arf Z h213 b206 "[B" .byte (8 : Int32) (upd (upd (upd (upd (upd (upd (upd (upd (fun _ => (.int 0)) 0 (.int (48 : Int32))) 1 (.int (5 : Int32))) 2 (.int (4 : Int32))) 3 (.int (1 : Int32))) 4 (.int (nar .byte (p1.toInt8.toInt32)))) 5 (.int (5 : Int32))) 6 (.int (0 : Int32))) 7 (.int (nar .byte (p3.toInt8.toInt32)))) := A206'
  refine g_new C (hw _ (List.mem_of_getElem? (i := 0) rfl)) (hw _ (List.mem_of_getElem? (i := 1) rfl)) (hw _ (List.mem_of_getElem? (i := 2) rfl)) at_220 (pc' := 223) rfl (k' := 2) (n' := 11) rfl rfl (by decide) (by decide) ?_
  intro h215 b215 E215 fb215 gb215 A215 D215
  have ne_t_SEQUENCE_b215 : t_SEQUENCE ≠ b215 := Nat.ne_of_lt (Nat.lt_of_lt_of_le E_SEQUENCE.lt fb215)
  have ne_t_NULL_b215 : t_NULL ≠ b215 := Nat.ne_of_lt (Nat.lt_of_lt_of_le E_NULL.lt fb215)
  have ne_t_OCTET_STRING_b215 : t_OCTET_STRING ≠ b215 := Nat.ne_of_lt (Nat.lt_of_lt_of_le E_OCTET_STRING.lt fb215)
  have ne_b206_b215 : b206 ≠ b215 := Nat.ne_of_lt (Nat.lt_of_lt_of_le A206.lt fb215)
  have X := X.ext E215
  have E_SEQUENCE := E_SEQUENCE.ext E215
  have F_SEQUENCE := F_SEQUENCE.ext E215
  have E_NULL := E_NULL.ext E215
  have F_NULL := F_NULL.ext E215
  have E_OCTET_STRING := E_OCTET_STRING.ext E215
  have F_OCTET_STRING := F_OCTET_STRING.ext E215
  have A206 := A206.ext E215
  have F215_der : Fld Z h215 b215 "com/example/sigillum/sigillum/codec/DerReader" "der" "[B" .null := D215 (Or.inr (hw _ (List.mem_of_getElem? (i := 23) rfl))) (ty := (.array .byte)) (by decide)
  have F215_position : Fld Z h215 b215 "com/example/sigillum/sigillum/codec/DerReader" "position" "I" (.int (0 : Int32)) := D215 (Or.inl (hw _ (List.mem_of_getElem? (i := 25) rfl))) (ty := .int) (by decide)
  have F215_end : Fld Z h215 b215 "com/example/sigillum/sigillum/codec/DerReader" "end" "I" (.int (0 : Int32)) := D215 (Or.inr (hw _ (List.mem_of_getElem? (i := 27) rfl))) (ty := .int) (by decide)
  refine g_dup C at_223 (pc' := 224) rfl rfl ?_
  refine g_aload C at_224 (pc' := 226) rfl rfl rfl ?_
  refine g_special (rm := R_m_init1) (a := b215) C (y := (⟨"com/example/sigillum/sigillum/codec/DerReader", "<init>", "([B)V"⟩ : MethodName)) rfl (hw _ (List.mem_of_getElem? (i := 4) rfl)) (hw _ (List.mem_of_getElem? (i := 5) rfl)) (hw _ (List.mem_of_getElem? (i := 6) rfl)) (by decide) at_226 (pc' := 229) rfl (argsL := [(.ref b206)]) (rest := [(.ref b215)]) (lenOf pd_10 rfl) rfl (W := 1) (Nat.le_of_eq rfl) rfl (fun hn9 => Met.back (rm := R_m_init1) (m_init1 hw b215 b206 (8 : Int32) (upd (upd (upd (upd (upd (upd (upd (upd (fun _ => (.int 0)) 0 (.int (48 : Int32))) 1 (.int (5 : Int32))) 2 (.int (4 : Int32))) 3 (.int (1 : Int32))) 4 (.int (nar .byte (p1.toInt8.toInt32)))) 5 (.int (5 : Int32))) 6 (.int (0 : Int32))) 7 (.int (nar .byte (p3.toInt8.toInt32)))) ⟨A215, F215_der, F215_position, F215_end⟩ A206 (by decide) gb215) hn9 C.hZ (hw _ (List.mem_of_getElem? (i := 6) rfl)) (hw _ (List.mem_of_getElem? (i := 2) rfl)) (by decide) (by decide)) (k' := 3) (n' := 20) rfl rfl (by decide) (by decide) ?_
  rintro _ h216 ⟨rfl, Ki, t_b215, ft_b215, gt_b215, ⟨E_b215, F1_b215, F2_b215, F3_b215⟩, At_b215⟩
  have ne_t_SEQUENCE_t_b215 : t_SEQUENCE ≠ t_b215 := Nat.ne_of_lt (Nat.lt_of_lt_of_le E_SEQUENCE.lt ft_b215)
  have ne_t_NULL_t_b215 : t_NULL ≠ t_b215 := Nat.ne_of_lt (Nat.lt_of_lt_of_le E_NULL.lt ft_b215)
  have ne_t_OCTET_STRING_t_b215 : t_OCTET_STRING ≠ t_b215 := Nat.ne_of_lt (Nat.lt_of_lt_of_le E_OCTET_STRING.lt ft_b215)
  have ne_b206_t_b215 : b206 ≠ t_b215 := Nat.ne_of_lt (Nat.lt_of_lt_of_le A206.lt ft_b215)
  have ne_b215_t_b215 : b215 ≠ t_b215 := Nat.ne_of_lt (Nat.lt_of_lt_of_le A215.lt ft_b215)
  have X := X.keep Ki (allS gb215 all0)
  have E_SEQUENCE := E_SEQUENCE.keep Ki
  have F_SEQUENCE := F_SEQUENCE.keep Ki (ninS ne_t_SEQUENCE_b215 nin0)
  have E_NULL := E_NULL.keep Ki
  have F_NULL := F_NULL.keep Ki (ninS ne_t_NULL_b215 nin0)
  have E_OCTET_STRING := E_OCTET_STRING.keep Ki
  have F_OCTET_STRING := F_OCTET_STRING.keep Ki (ninS ne_t_OCTET_STRING_b215 nin0)
  have A206 := A206.keep Ki (ninS ne_b206_b215 nin0)
  have A215 := A215.keep Ki
  show Go w l _ n0 _ h216 3 20 229 #[.val (.int p0), .val (.int p1), .val (.int p2), .val (.int p3), .val (.int (2 : Int32)), .val (.int (1 : Int32)), .val (.int (0 : Int32)), .val (.int (1 : Int32)), .val (.int (3 : Int32)), .val (.int (2 : Int32)), .val (.int (5 : Int32)), .val (.int (8 : Int32)), .val (.ref b206), .val (.int (7 : Int32)), .unset, .unset, .unset] [(.ref b215)]
  refine g_astore C at_229 (pc' := 231) rfl rfl (Ls' := #[.val (.int p0), .val (.int p1), .val (.int p2), .val (.int p3), .val (.int (2 : Int32)), .val (.int (1 : Int32)), .val (.int (0 : Int32)), .val (.int (1 : Int32)), .val (.int (3 : Int32)), .val (.int (2 : Int32)), .val (.int (5 : Int32)), .val (.int (8 : Int32)), .val (.ref b206), .val (.int (7 : Int32)), .val (.ref b215), .unset, .unset]) rfl ?_
  refine g_aload C at_231 (pc' := 233) rfl rfl rfl ?_
  refine g_virtual (rm := R_m_hasMore) (a := b215) C (y := (⟨"com/example/sigillum/sigillum/codec/DerReader", "hasMore", "()Z"⟩ : MethodName)) (y' := (⟨"com/example/sigillum/sigillum/codec/DerReader", "hasMore", "()Z"⟩ : MethodName)) (hw _ (List.mem_of_getElem? (i := 28) rfl)) (hw _ (List.mem_of_getElem? (i := 29) rfl)) (g_nf C (hw _ (List.mem_of_getElem? (i := 31) rfl))) (hw _ (List.mem_of_getElem? (i := 31) rfl)) (hw _ (List.mem_of_getElem? (i := 30) rfl)) (by decide) E_b215 at_233 (pc' := 236) rfl (argsL := []) (rest := []) (lenOf pd_1 rfl) rfl (W := 0) (Nat.le_of_eq rfl) rfl (fun hn9 => Met.back (rm := R_m_hasMore) (m_hasMore hw b215 (0 : Int32) (8 : Int32) F2_b215 F3_b215) hn9 C.hZ (hw _ (List.mem_of_getElem? (i := 32) rfl)) (hw _ (List.mem_of_getElem? (i := 2) rfl)) (by decide) (by decide)) (k' := 3) (n' := 20) rfl rfl (by decide) (by decide) ?_
  rintro _ _ ⟨rfl, rfl⟩
  show Go w l _ n0 _ h216 3 20 236 #[.val (.int p0), .val (.int p1), .val (.int p2), .val (.int p3), .val (.int (2 : Int32)), .val (.int (1 : Int32)), .val (.int (0 : Int32)), .val (.int (1 : Int32)), .val (.int (3 : Int32)), .val (.int (2 : Int32)), .val (.int (5 : Int32)), .val (.int (8 : Int32)), .val (.ref b206), .val (.int (7 : Int32)), .val (.ref b215), .unset, .unset] [(.int (1 : Int32))]
  refine g_istore C at_236 (pc' := 238) rfl (Ls' := #[.val (.int p0), .val (.int p1), .val (.int p2), .val (.int p3), .val (.int (2 : Int32)), .val (.int (1 : Int32)), .val (.int (0 : Int32)), .val (.int (1 : Int32)), .val (.int (3 : Int32)), .val (.int (2 : Int32)), .val (.int (5 : Int32)), .val (.int (8 : Int32)), .val (.ref b206), .val (.int (7 : Int32)), .val (.ref b215), .val (.int (1 : Int32)), .unset]) rfl ?_
  refine g_aload C at_238 (pc' := 240) rfl rfl rfl ?_
  refine g_virtual (rm := R_m_seq) (a := b215) C (y := (⟨"com/example/sigillum/sigillum/codec/DerReader", "sequence", "()Lcom/example/sigillum/sigillum/codec/DerReader;"⟩ : MethodName)) (y' := (⟨"com/example/sigillum/sigillum/codec/DerReader", "sequence", "()Lcom/example/sigillum/sigillum/codec/DerReader;"⟩ : MethodName)) (hw _ (List.mem_of_getElem? (i := 33) rfl)) (hw _ (List.mem_of_getElem? (i := 34) rfl)) (g_nf C (hw _ (List.mem_of_getElem? (i := 36) rfl))) (hw _ (List.mem_of_getElem? (i := 36) rfl)) (hw _ (List.mem_of_getElem? (i := 35) rfl)) (by decide) E_b215 at_240 (pc' := 243) rfl (argsL := []) (rest := []) (lenOf pd_11 rfl) rfl (W := 0) (Nat.le_of_eq rfl) rfl (fun hn9 => Met.back (rm := R_m_seq) (m_seq hw b215 t_b215 t_SEQUENCE (0 : Int32) (8 : Int32) (8 : Int32) (48 : Int32) (5 : Int32) (5 : Int32) (48 : Int32) (2 : Int32) (upd (upd (upd (upd (upd (upd (upd (upd (fun _ => (.int 0)) 0 (.int (48 : Int32))) 1 (.int (5 : Int32))) 2 (.int (4 : Int32))) 3 (.int (1 : Int32))) 4 (.int (nar .byte (p1.toInt8.toInt32)))) 5 (.int (5 : Int32))) 6 (.int (0 : Int32))) 7 (.int (nar .byte (p3.toInt8.toInt32)))) (7 : Int32) ⟨E_b215, F1_b215, F2_b215, F3_b215⟩ At_b215 E_SEQUENCE F_SEQUENCE gb215 (Ne.symm ne_b215_t_b215) (by decide) (by decide) (by decide) rfl (by decide) (by decide) (by decide) (by decide) rfl (by decide) (by decide) (by decide) (by decide) (by decide) (S_SEQUENCE.ext X.2)) hn9 C.hZ (hw _ (List.mem_of_getElem? (i := 37) rfl)) (hw _ (List.mem_of_getElem? (i := 2) rfl)) (by decide) (by decide)) (k' := 4) (n' := 23) rfl rfl (by decide) (by decide) ?_
  rintro _ h217 ⟨sq, rfl, fsq, gsq, Ks, ⟨E_b215, F1_b215, F2_b215, F3_b215⟩, ⟨E_sq, F1_sq, F2_sq, F3_sq⟩⟩
  have ne_t_SEQUENCE_sq : t_SEQUENCE ≠ sq := Nat.ne_of_lt (Nat.lt_of_lt_of_le E_SEQUENCE.lt fsq)
  have ne_t_NULL_sq : t_NULL ≠ sq := Nat.ne_of_lt (Nat.lt_of_lt_of_le E_NULL.lt fsq)
  have ne_t_OCTET_STRING_sq : t_OCTET_STRING ≠ sq := Nat.ne_of_lt (Nat.lt_of_lt_of_le E_OCTET_STRING.lt fsq)
  have ne_b206_sq : b206 ≠ sq := Nat.ne_of_lt (Nat.lt_of_lt_of_le A206.lt fsq)
  have ne_t_b215_sq : t_b215 ≠ sq := Nat.ne_of_lt (Nat.lt_of_lt_of_le At_b215.lt fsq)
  have X := X.keep Ks (allS gb215 all0)
  have E_SEQUENCE := E_SEQUENCE.keep Ks
  have F_SEQUENCE := F_SEQUENCE.keep Ks (ninS ne_t_SEQUENCE_b215 nin0)
  have E_NULL := E_NULL.keep Ks
  have F_NULL := F_NULL.keep Ks (ninS ne_t_NULL_b215 nin0)
  have E_OCTET_STRING := E_OCTET_STRING.keep Ks
  have F_OCTET_STRING := F_OCTET_STRING.keep Ks (ninS ne_t_OCTET_STRING_b215 nin0)
  have A206 := A206.keep Ks (ninS ne_b206_b215 nin0)
  have At_b215 := At_b215.keep Ks (ninS (Ne.symm ne_b215_t_b215) nin0)
  show Go w l _ n0 _ h217 4 23 243 #[.val (.int p0), .val (.int p1), .val (.int p2), .val (.int p3), .val (.int (2 : Int32)), .val (.int (1 : Int32)), .val (.int (0 : Int32)), .val (.int (1 : Int32)), .val (.int (3 : Int32)), .val (.int (2 : Int32)), .val (.int (5 : Int32)), .val (.int (8 : Int32)), .val (.ref b206), .val (.int (7 : Int32)), .val (.ref b215), .val (.int (1 : Int32)), .unset] [(.ref sq)]
  refine g_astore C at_243 (pc' := 245) rfl rfl (Ls' := #[.val (.int p0), .val (.int p1), .val (.int p2), .val (.int p3), .val (.int (2 : Int32)), .val (.int (1 : Int32)), .val (.int (0 : Int32)), .val (.int (1 : Int32)), .val (.int (3 : Int32)), .val (.int (2 : Int32)), .val (.int (5 : Int32)), .val (.int (8 : Int32)), .val (.ref b206), .val (.int (7 : Int32)), .val (.ref b215), .val (.int (1 : Int32)), .val (.ref sq)]) rfl ?_
  refine g_iload C at_245 (pc' := 247) rfl rfl ?_
  refine g_if_eq C at_247 (by decide) (pc' := 264) (by decide) (pcN := 250) rfl (fun q => absurd q (by decide)) (fun _ => ?_)
  refine g_aload C at_250 (pc' := 252) rfl rfl rfl ?_
  refine g_virtual (rm := R_m_hasMore) (a := b215) C (y := (⟨"com/example/sigillum/sigillum/codec/DerReader", "hasMore", "()Z"⟩ : MethodName)) (y' := (⟨"com/example/sigillum/sigillum/codec/DerReader", "hasMore", "()Z"⟩ : MethodName)) (hw _ (List.mem_of_getElem? (i := 28) rfl)) (hw _ (List.mem_of_getElem? (i := 29) rfl)) (g_nf C (hw _ (List.mem_of_getElem? (i := 31) rfl))) (hw _ (List.mem_of_getElem? (i := 31) rfl)) (hw _ (List.mem_of_getElem? (i := 30) rfl)) (by decide) E_b215 at_252 (pc' := 255) rfl (argsL := []) (rest := []) (lenOf pd_1 rfl) rfl (W := 0) (Nat.le_of_eq rfl) rfl (fun hn9 => Met.back (rm := R_m_hasMore) (m_hasMore hw b215 (7 : Int32) (8 : Int32) F2_b215 F3_b215) hn9 C.hZ (hw _ (List.mem_of_getElem? (i := 32) rfl)) (hw _ (List.mem_of_getElem? (i := 2) rfl)) (by decide) (by decide)) (k' := 4) (n' := 23) rfl rfl (by decide) (by decide) ?_
  rintro _ _ ⟨rfl, rfl⟩
  show Go w l _ n0 _ h217 4 23 255 #[.val (.int p0), .val (.int p1), .val (.int p2), .val (.int p3), .val (.int (2 : Int32)), .val (.int (1 : Int32)), .val (.int (0 : Int32)), .val (.int (1 : Int32)), .val (.int (3 : Int32)), .val (.int (2 : Int32)), .val (.int (5 : Int32)), .val (.int (8 : Int32)), .val (.ref b206), .val (.int (7 : Int32)), .val (.ref b215), .val (.int (1 : Int32)), .val (.ref sq)] [(.int (1 : Int32))]
  refine g_iload C at_255 (pc' := 257) rfl rfl ?_
  refine g_icmp_ne C at_257 (by decide) (pc' := 264) (by decide) (pcN := 260) rfl (fun q => absurd rfl q) (fun _ => ?_)
  refine g_iconst C (z := (1 : Int32)) at_260 (pc' := 261) rfl rfl ?_
  refine g_goto C at_261 (by decide) (pc' := 265) (by decide) ?_
  refine g_istore C at_265 (pc' := 267) rfl (Ls' := #[.val (.int p0), .val (.int p1), .val (.int p2), .val (.int p3), .val (.int (2 : Int32)), .val (.int (1 : Int32)), .val (.int (0 : Int32)), .val (.int (1 : Int32)), .val (.int (3 : Int32)), .val (.int (2 : Int32)), .val (.int (5 : Int32)), .val (.int (8 : Int32)), .val (.ref b206), .val (.int (7 : Int32)), .val (.ref b215), .val (.int (1 : Int32)), .val (.ref sq)]) rfl ?_
  refine g_iload C at_267 (pc' := 269) rfl rfl ?_
  refine g_if_eq C at_269 (by decide) (pc' := 294) (by decide) (pcN := 272) rfl (fun q => absurd q (by decide)) (fun _ => ?_)
  refine g_aload C at_272 (pc' := 274) rfl rfl rfl ?_
  refine g_virtual (rm := R_m_hasMore) (a := sq) C (y := (⟨"com/example/sigillum/sigillum/codec/DerReader", "hasMore", "()Z"⟩ : MethodName)) (y' := (⟨"com/example/sigillum/sigillum/codec/DerReader", "hasMore", "()Z"⟩ : MethodName)) (hw _ (List.mem_of_getElem? (i := 28) rfl)) (hw _ (List.mem_of_getElem? (i := 29) rfl)) (g_nf C (hw _ (List.mem_of_getElem? (i := 31) rfl))) (hw _ (List.mem_of_getElem? (i := 31) rfl)) (hw _ (List.mem_of_getElem? (i := 30) rfl)) (by decide) E_sq at_274 (pc' := 277) rfl (argsL := []) (rest := []) (lenOf pd_1 rfl) rfl (W := 0) (Nat.le_of_eq rfl) rfl (fun hn9 => Met.back (rm := R_m_hasMore) (m_hasMore hw sq (2 : Int32) (7 : Int32) F2_sq F3_sq) hn9 C.hZ (hw _ (List.mem_of_getElem? (i := 32) rfl)) (hw _ (List.mem_of_getElem? (i := 2) rfl)) (by decide) (by decide)) (k' := 4) (n' := 23) rfl rfl (by decide) (by decide) ?_
  rintro _ _ ⟨rfl, rfl⟩
  show Go w l _ n0 _ h217 4 23 277 #[.val (.int p0), .val (.int p1), .val (.int p2), .val (.int p3), .val (.int (2 : Int32)), .val (.int (1 : Int32)), .val (.int (0 : Int32)), .val (.int (1 : Int32)), .val (.int (3 : Int32)), .val (.int (2 : Int32)), .val (.int (5 : Int32)), .val (.int (8 : Int32)), .val (.ref b206), .val (.int (7 : Int32)), .val (.ref b215), .val (.int (1 : Int32)), .val (.ref sq)] [(.int (1 : Int32))]
  refine g_iload C at_277 (pc' := 279) rfl rfl ?_
  refine g_if_le C at_279 (by decide) (pc' := 286) (by decide) (pcN := 282) rfl (fun q => absurd q (by decide)) (fun _ => ?_)
  refine g_iconst C (z := (1 : Int32)) at_282 (pc' := 283) rfl rfl ?_
  refine g_goto C at_283 (by decide) (pc' := 287) (by decide) ?_
  refine g_icmp_ne C at_287 (by decide) (pc' := 294) (by decide) (pcN := 290) rfl (fun q => absurd rfl q) (fun _ => ?_)
  refine g_iconst C (z := (1 : Int32)) at_290 (pc' := 291) rfl rfl ?_
  refine g_goto C at_291 (by decide) (pc' := 295) (by decide) ?_
  refine g_istore C at_295 (pc' := 297) rfl (Ls' := #[.val (.int p0), .val (.int p1), .val (.int p2), .val (.int p3), .val (.int (2 : Int32)), .val (.int (1 : Int32)), .val (.int (0 : Int32)), .val (.int (1 : Int32)), .val (.int (3 : Int32)), .val (.int (2 : Int32)), .val (.int (5 : Int32)), .val (.int (8 : Int32)), .val (.ref b206), .val (.int (7 : Int32)), .val (.ref b215), .val (.int (1 : Int32)), .val (.ref sq)]) rfl ?_
  refine g_iload C at_297 (pc' := 299) rfl rfl ?_
  refine g_if_le C at_299 (by decide) (pc' := 340) (by decide) (pcN := 302) rfl (fun q => absurd q (by decide)) (fun _ => ?_)
  refine g_aload C at_302 (pc' := 304) rfl rfl rfl ?_
  refine g_iload C at_304 (pc' := 306) rfl rfl ?_
  refine g_static (rm := R_m_read1) C (y := (⟨"com/example/sigillum/sigillum/codec/DerReaderHasMorePinLaw", "read", "(Lcom/example/sigillum/sigillum/codec/DerReader;Z)V"⟩ : MethodName)) (hw _ (List.mem_of_getElem? (i := 58) rfl)) (hw _ (List.mem_of_getElem? (i := 59) rfl)) (hw _ (List.mem_of_getElem? (i := 56) rfl)) (hw _ (List.mem_of_getElem? (i := 60) rfl)) (by decide) at_306 (pc' := 309) rfl (argsL := [(.ref sq), (.int (1 : Int32))]) (rest := []) (lenOf pd_13 rfl) rfl (W := 0) (Nat.le_of_eq rfl) rfl (fun hn9 => Met.back (rm := R_m_read1) (m_read1 hw sq t_b215 t_OCTET_STRING (2 : Int32) (7 : Int32) (8 : Int32) (4 : Int32) (1 : Int32) (1 : Int32) (4 : Int32) (4 : Int32) (upd (upd (upd (upd (upd (upd (upd (upd (fun _ => (.int 0)) 0 (.int (48 : Int32))) 1 (.int (5 : Int32))) 2 (.int (4 : Int32))) 3 (.int (1 : Int32))) 4 (.int (nar .byte (p1.toInt8.toInt32)))) 5 (.int (5 : Int32))) 6 (.int (0 : Int32))) 7 (.int (nar .byte (p3.toInt8.toInt32)))) ⟨E_sq, F1_sq, F2_sq, F3_sq⟩ At_b215 E_OCTET_STRING F_OCTET_STRING gsq ne_t_b215_sq (by decide) (by decide) (by decide) rfl (by decide) (by decide) (by decide) (by decide) rfl (by decide) (by decide) (by decide) (by decide) (5 : Int32) (1 : Int32) (by decide) (by decide) (by decide) (by decide) (by decide) (by decide) (by decide) (by decide) (by decide) (by decide) (by decide) (S_OCTET_STRING.ext X.2)) hn9 C.hZ (hw _ (List.mem_of_getElem? (i := 60) rfl)) (hw _ (List.mem_of_getElem? (i := 56) rfl)) (by decide) (by decide)) (k' := 5) (n' := 26) rfl rfl (by decide) (by decide) ?_
  rintro _ h218 ⟨rfl, Kr, ⟨E_sq, F1_sq, F2_sq, F3_sq⟩⟩
  have X := X.keep Kr (allS gsq all0)
  have E_SEQUENCE := E_SEQUENCE.keep Kr
  have F_SEQUENCE := F_SEQUENCE.keep Kr (ninS ne_t_SEQUENCE_sq nin0)
  have E_NULL := E_NULL.keep Kr
  have F_NULL := F_NULL.keep Kr (ninS ne_t_NULL_sq nin0)
  have E_OCTET_STRING := E_OCTET_STRING.keep Kr
  have F_OCTET_STRING := F_OCTET_STRING.keep Kr (ninS ne_t_OCTET_STRING_sq nin0)
  have A206 := A206.keep Kr (ninS ne_b206_sq nin0)
  have At_b215 := At_b215.keep Kr (ninS ne_t_b215_sq nin0)
  have E_b215 := E_b215.keep Kr
  show Go w l _ n0 _ h218 5 26 309 #[.val (.int p0), .val (.int p1), .val (.int p2), .val (.int p3), .val (.int (2 : Int32)), .val (.int (1 : Int32)), .val (.int (0 : Int32)), .val (.int (1 : Int32)), .val (.int (3 : Int32)), .val (.int (2 : Int32)), .val (.int (5 : Int32)), .val (.int (8 : Int32)), .val (.ref b206), .val (.int (7 : Int32)), .val (.ref b215), .val (.int (1 : Int32)), .val (.ref sq)] []
  refine g_iload C at_309 (pc' := 311) rfl rfl ?_
  refine g_if_eq C at_311 (by decide) (pc' := 337) (by decide) (pcN := 314) rfl (fun q => absurd q (by decide)) (fun _ => ?_)
  refine g_aload C at_314 (pc' := 316) rfl rfl rfl ?_
  refine g_virtual (rm := R_m_hasMore) (a := sq) C (y := (⟨"com/example/sigillum/sigillum/codec/DerReader", "hasMore", "()Z"⟩ : MethodName)) (y' := (⟨"com/example/sigillum/sigillum/codec/DerReader", "hasMore", "()Z"⟩ : MethodName)) (hw _ (List.mem_of_getElem? (i := 28) rfl)) (hw _ (List.mem_of_getElem? (i := 29) rfl)) (g_nf C (hw _ (List.mem_of_getElem? (i := 31) rfl))) (hw _ (List.mem_of_getElem? (i := 31) rfl)) (hw _ (List.mem_of_getElem? (i := 30) rfl)) (by decide) E_sq at_316 (pc' := 319) rfl (argsL := []) (rest := []) (lenOf pd_1 rfl) rfl (W := 0) (Nat.le_of_eq rfl) rfl (fun hn9 => Met.back (rm := R_m_hasMore) (m_hasMore hw sq (5 : Int32) (7 : Int32) F2_sq F3_sq) hn9 C.hZ (hw _ (List.mem_of_getElem? (i := 32) rfl)) (hw _ (List.mem_of_getElem? (i := 2) rfl)) (by decide) (by decide)) (k' := 5) (n' := 26) rfl rfl (by decide) (by decide) ?_
  rintro _ _ ⟨rfl, rfl⟩
  show Go w l _ n0 _ h218 5 26 319 #[.val (.int p0), .val (.int p1), .val (.int p2), .val (.int p3), .val (.int (2 : Int32)), .val (.int (1 : Int32)), .val (.int (0 : Int32)), .val (.int (1 : Int32)), .val (.int (3 : Int32)), .val (.int (2 : Int32)), .val (.int (5 : Int32)), .val (.int (8 : Int32)), .val (.ref b206), .val (.int (7 : Int32)), .val (.ref b215), .val (.int (1 : Int32)), .val (.ref sq)] [(.int (1 : Int32))]
  refine g_iload C at_319 (pc' := 321) rfl rfl ?_
  refine g_iconst C (z := (1 : Int32)) at_321 (pc' := 322) rfl rfl ?_
  refine g_icmp_le C at_322 (by decide) (pc' := 329) (by decide) (pcN := 325) rfl (fun q => absurd q (by decide)) (fun _ => ?_)
  refine g_iconst C (z := (1 : Int32)) at_325 (pc' := 326) rfl rfl ?_
  refine g_goto C at_326 (by decide) (pc' := 330) (by decide) ?_
  refine g_icmp_ne C at_330 (by decide) (pc' := 337) (by decide) (pcN := 333) rfl (fun q => absurd rfl q) (fun _ => ?_)
  refine g_iconst C (z := (1 : Int32)) at_333 (pc' := 334) rfl rfl ?_
  refine g_goto C at_334 (by decide) (pc' := 338) (by decide) ?_
  refine g_istore C at_338 (pc' := 340) rfl (Ls' := #[.val (.int p0), .val (.int p1), .val (.int p2), .val (.int p3), .val (.int (2 : Int32)), .val (.int (1 : Int32)), .val (.int (0 : Int32)), .val (.int (1 : Int32)), .val (.int (3 : Int32)), .val (.int (2 : Int32)), .val (.int (5 : Int32)), .val (.int (8 : Int32)), .val (.ref b206), .val (.int (7 : Int32)), .val (.ref b215), .val (.int (1 : Int32)), .val (.ref sq)]) rfl ?_
  refine g_iload C at_340 (pc' := 342) rfl rfl ?_
  refine g_iconst C (z := (1 : Int32)) at_342 (pc' := 343) rfl rfl ?_
  refine g_icmp_le C at_343 (by decide) (pc' := 373) (by decide) (pcN := 346) rfl (fun q => absurd q (by decide)) (fun _ => ?_)
  refine g_aload C at_346 (pc' := 348) rfl rfl rfl ?_
  refine g_iload C at_348 (pc' := 350) rfl rfl ?_
  refine g_static (rm := R_m_read0) C (y := (⟨"com/example/sigillum/sigillum/codec/DerReaderHasMorePinLaw", "read", "(Lcom/example/sigillum/sigillum/codec/DerReader;Z)V"⟩ : MethodName)) (hw _ (List.mem_of_getElem? (i := 58) rfl)) (hw _ (List.mem_of_getElem? (i := 59) rfl)) (hw _ (List.mem_of_getElem? (i := 56) rfl)) (hw _ (List.mem_of_getElem? (i := 60) rfl)) (by decide) at_350 (pc' := 353) rfl (argsL := [(.ref sq), (.int (0 : Int32))]) (rest := []) (lenOf pd_13 rfl) rfl (W := 0) (Nat.le_of_eq rfl) rfl (fun hn9 => Met.back (rm := R_m_read0) (m_read0 hw sq t_b215 t_NULL (5 : Int32) (7 : Int32) (8 : Int32) (5 : Int32) (0 : Int32) (0 : Int32) (5 : Int32) (7 : Int32) (upd (upd (upd (upd (upd (upd (upd (upd (fun _ => (.int 0)) 0 (.int (48 : Int32))) 1 (.int (5 : Int32))) 2 (.int (4 : Int32))) 3 (.int (1 : Int32))) 4 (.int (nar .byte (p1.toInt8.toInt32)))) 5 (.int (5 : Int32))) 6 (.int (0 : Int32))) 7 (.int (nar .byte (p3.toInt8.toInt32)))) ⟨E_sq, F1_sq, F2_sq, F3_sq⟩ At_b215 E_NULL F_NULL gsq ne_t_b215_sq (by decide) (by decide) (by decide) rfl (by decide) (by decide) (by decide) (by decide) rfl (by decide) (by decide) (by decide) (by decide) (7 : Int32) (0 : Int32) (by decide) (by decide) (by decide) (by decide) (by decide) (by decide) (by decide) (by decide) (by decide) (by decide) (by decide) (by decide) (S_NULL.ext X.2)) hn9 C.hZ (hw _ (List.mem_of_getElem? (i := 60) rfl)) (hw _ (List.mem_of_getElem? (i := 56) rfl)) (by decide) (by decide)) (k' := 6) (n' := 29) rfl rfl (by decide) (by decide) ?_
  rintro _ h219 ⟨rfl, Kr, ⟨E_sq, F1_sq, F2_sq, F3_sq⟩⟩
  have X := X.keep Kr (allS gsq all0)
  have E_SEQUENCE := E_SEQUENCE.keep Kr
  have F_SEQUENCE := F_SEQUENCE.keep Kr (ninS ne_t_SEQUENCE_sq nin0)
  have E_NULL := E_NULL.keep Kr
  have F_NULL := F_NULL.keep Kr (ninS ne_t_NULL_sq nin0)
  have E_OCTET_STRING := E_OCTET_STRING.keep Kr
  have F_OCTET_STRING := F_OCTET_STRING.keep Kr (ninS ne_t_OCTET_STRING_sq nin0)
  have A206 := A206.keep Kr (ninS ne_b206_sq nin0)
  have At_b215 := At_b215.keep Kr (ninS ne_t_b215_sq nin0)
  have E_b215 := E_b215.keep Kr
  show Go w l _ n0 _ h219 6 29 353 #[.val (.int p0), .val (.int p1), .val (.int p2), .val (.int p3), .val (.int (2 : Int32)), .val (.int (1 : Int32)), .val (.int (0 : Int32)), .val (.int (1 : Int32)), .val (.int (3 : Int32)), .val (.int (2 : Int32)), .val (.int (5 : Int32)), .val (.int (8 : Int32)), .val (.ref b206), .val (.int (7 : Int32)), .val (.ref b215), .val (.int (1 : Int32)), .val (.ref sq)] []
  refine g_iload C at_353 (pc' := 355) rfl rfl ?_
  refine g_if_eq C at_355 (by decide) (pc' := 370) (by decide) (pcN := 358) rfl (fun q => absurd q (by decide)) (fun _ => ?_)
  refine g_aload C at_358 (pc' := 360) rfl rfl rfl ?_
  refine g_virtual (rm := R_m_hasMore) (a := sq) C (y := (⟨"com/example/sigillum/sigillum/codec/DerReader", "hasMore", "()Z"⟩ : MethodName)) (y' := (⟨"com/example/sigillum/sigillum/codec/DerReader", "hasMore", "()Z"⟩ : MethodName)) (hw _ (List.mem_of_getElem? (i := 28) rfl)) (hw _ (List.mem_of_getElem? (i := 29) rfl)) (g_nf C (hw _ (List.mem_of_getElem? (i := 31) rfl))) (hw _ (List.mem_of_getElem? (i := 31) rfl)) (hw _ (List.mem_of_getElem? (i := 30) rfl)) (by decide) E_sq at_360 (pc' := 363) rfl (argsL := []) (rest := []) (lenOf pd_1 rfl) rfl (W := 0) (Nat.le_of_eq rfl) rfl (fun hn9 => Met.back (rm := R_m_hasMore) (m_hasMore hw sq (7 : Int32) (7 : Int32) F2_sq F3_sq) hn9 C.hZ (hw _ (List.mem_of_getElem? (i := 32) rfl)) (hw _ (List.mem_of_getElem? (i := 2) rfl)) (by decide) (by decide)) (k' := 6) (n' := 29) rfl rfl (by decide) (by decide) ?_
  rintro _ _ ⟨rfl, rfl⟩
  show Go w l _ n0 _ h219 6 29 363 #[.val (.int p0), .val (.int p1), .val (.int p2), .val (.int p3), .val (.int (2 : Int32)), .val (.int (1 : Int32)), .val (.int (0 : Int32)), .val (.int (1 : Int32)), .val (.int (3 : Int32)), .val (.int (2 : Int32)), .val (.int (5 : Int32)), .val (.int (8 : Int32)), .val (.ref b206), .val (.int (7 : Int32)), .val (.ref b215), .val (.int (1 : Int32)), .val (.ref sq)] [(.int (0 : Int32))]
  refine g_if_ne C at_363 (by decide) (pc' := 370) (by decide) (pcN := 366) rfl (fun q => absurd rfl q) (fun _ => ?_)
  refine g_iconst C (z := (1 : Int32)) at_366 (pc' := 367) rfl rfl ?_
  refine g_goto C at_367 (by decide) (pc' := 371) (by decide) ?_
  refine g_istore C at_371 (pc' := 373) rfl (Ls' := #[.val (.int p0), .val (.int p1), .val (.int p2), .val (.int p3), .val (.int (2 : Int32)), .val (.int (1 : Int32)), .val (.int (0 : Int32)), .val (.int (1 : Int32)), .val (.int (3 : Int32)), .val (.int (2 : Int32)), .val (.int (5 : Int32)), .val (.int (8 : Int32)), .val (.ref b206), .val (.int (7 : Int32)), .val (.ref b215), .val (.int (1 : Int32)), .val (.ref sq)]) rfl ?_
  refine g_iload C at_373 (pc' := 375) rfl rfl ?_
  exact g_retN C (t := .boolean) rfl (by simp) at_375 rfl (by decide) (by decide)
set_option maxRecDepth 65536 in
set_option maxHeartbeats 40000000 in
theorem seg82_2110 {l : Launch} {Z : State} {a0 : Array Value} (hw : ∀ d ∈ tables_1, d.before a0 Z = true) {w : Wk} {n0 : Nat} {h0 : Heap} {Y : State → Outcome → Prop} (p0 p1 p2 p3 : Int32) (t_SEQUENCE t_NULL t_OCTET_STRING : Addr) (C : Cx w Z "com/example/sigillum/sigillum/codec/DerReaderHasMorePinLaw" code 17 (some .boolean) "law" room_1 n0 (fun v _ => v = some (.int 1)) Y) (X : Old Z n0 h0) (S_SEQUENCE : Sta Z Z.heap "com/example/sigillum/sigillum/codec/DerTag" "SEQUENCE" "Lcom/example/sigillum/sigillum/codec/DerTag;" (.ref t_SEQUENCE)) (E_SEQUENCE : Exa Z h0 t_SEQUENCE "com/example/sigillum/sigillum/codec/DerTag") (F_SEQUENCE : Fld Z h0 t_SEQUENCE "com/example/sigillum/sigillum/codec/DerTag" "identifier" "I" (.int 48)) (S_NULL : Sta Z Z.heap "com/example/sigillum/sigillum/codec/DerTag" "NULL" "Lcom/example/sigillum/sigillum/codec/DerTag;" (.ref t_NULL)) (E_NULL : Exa Z h0 t_NULL "com/example/sigillum/sigillum/codec/DerTag") (F_NULL : Fld Z h0 t_NULL "com/example/sigillum/sigillum/codec/DerTag" "identifier" "I" (.int 5)) (S_OCTET_STRING : Sta Z Z.heap "com/example/sigillum/sigillum/codec/DerTag" "OCTET_STRING" "Lcom/example/sigillum/sigillum/codec/DerTag;" (.ref t_OCTET_STRING)) (E_OCTET_STRING : Exa Z h0 t_OCTET_STRING "com/example/sigillum/sigillum/codec/DerTag") (F_OCTET_STRING : Fld Z h0 t_OCTET_STRING "com/example/sigillum/sigillum/codec/DerTag" "identifier" "I" (.int 4)) :
    Go w l room_1 n0 Y h0 0 0 82 #[.val (.int p0), .val (.int p1), .val (.int p2), .val (.int p3), .val (.int (2 : Int32)), .val (.int (1 : Int32)), .val (.int (1 : Int32)), .val (.int (0 : Int32)), .unset, .unset, .unset, .unset, .unset, .unset, .unset, .unset, .unset] [] := by
  refine g_iload C at_82 (pc' := 84) rfl rfl ?_
  refine g_if_le C at_84 (by decide) (pc' := 100) (by decide) (pcN := 87) rfl (fun q => absurd q (by decide)) (fun _ => ?_)
  refine g_iload C at_87 (pc' := 89) rfl rfl ?_
  refine g_if_eq C at_89 (by decide) (pc' := 96) (by decide) (pcN := 92) rfl (fun q => absurd q (by decide)) (fun _ => ?_)
  refine g_iconst C (z := (3 : Int32)) at_92 (pc' := 93) rfl rfl ?_
  refine g_goto C at_93 (by decide) (pc' := 101) (by decide) ?_
  refine g_istore C at_101 (pc' := 103) rfl (Ls' := #[.val (.int p0), .val (.int p1), .val (.int p2), .val (.int p3), .val (.int (2 : Int32)), .val (.int (1 : Int32)), .val (.int (1 : Int32)), .val (.int (0 : Int32)), .val (.int (3 : Int32)), .unset, .unset, .unset, .unset, .unset, .unset, .unset, .unset]) rfl ?_
  refine g_iload C at_103 (pc' := 105) rfl rfl ?_
  refine g_iconst C (z := (1 : Int32)) at_105 (pc' := 106) rfl rfl ?_
  refine g_icmp_le C at_106 (by decide) (pc' := 122) (by decide) (pcN := 109) rfl (fun q => absurd q (by decide)) (fun _ => ?_)
  refine g_iload C at_109 (pc' := 111) rfl rfl ?_
  refine g_if_eq C at_111 (by decide) (pc' := 118) (by decide) (pcN := 114) rfl (fun q => absurd q (by decide)) (fun _ => ?_)
  refine g_iconst C (z := (3 : Int32)) at_114 (pc' := 115) rfl rfl ?_
  refine g_goto C at_115 (by decide) (pc' := 123) (by decide) ?_
  refine g_istore C at_123 (pc' := 125) rfl (Ls' := #[.val (.int p0), .val (.int p1), .val (.int p2), .val (.int p3), .val (.int (2 : Int32)), .val (.int (1 : Int32)), .val (.int (1 : Int32)), .val (.int (0 : Int32)), .val (.int (3 : Int32)), .val (.int (3 : Int32)), .unset, .unset, .unset, .unset, .unset, .unset, .unset]) rfl ?_
  refine g_iload C at_125 (pc' := 127) rfl rfl ?_
  refine g_iload C at_127 (pc' := 129) rfl rfl ?_
  refine g_iadd C at_129 (pc' := 130) rfl ?_
  show Go w l _ n0 _ h0 0 0 130 #[.val (.int p0), .val (.int p1), .val (.int p2), .val (.int p3), .val (.int (2 : Int32)), .val (.int (1 : Int32)), .val (.int (1 : Int32)), .val (.int (0 : Int32)), .val (.int (3 : Int32)), .val (.int (3 : Int32)), .unset, .unset, .unset, .unset, .unset, .unset, .unset] [(.int (6 : Int32))]
  refine g_istore C at_130 (pc' := 132) rfl (Ls' := #[.val (.int p0), .val (.int p1), .val (.int p2), .val (.int p3), .val (.int (2 : Int32)), .val (.int (1 : Int32)), .val (.int (1 : Int32)), .val (.int (0 : Int32)), .val (.int (3 : Int32)), .val (.int (3 : Int32)), .val (.int (6 : Int32)), .unset, .unset, .unset, .unset, .unset, .unset]) rfl ?_
  refine g_iconst C (z := (2 : Int32)) at_132 (pc' := 133) rfl rfl ?_
  refine g_iload C at_133 (pc' := 135) rfl rfl ?_
  refine g_iadd C at_135 (pc' := 136) rfl ?_
  show Go w l _ n0 _ h0 0 0 136 #[.val (.int p0), .val (.int p1), .val (.int p2), .val (.int p3), .val (.int (2 : Int32)), .val (.int (1 : Int32)), .val (.int (1 : Int32)), .val (.int (0 : Int32)), .val (.int (3 : Int32)), .val (.int (3 : Int32)), .val (.int (6 : Int32)), .unset, .unset, .unset, .unset, .unset, .unset] [(.int (8 : Int32))]
  refine g_iload C at_136 (pc' := 138) rfl rfl ?_
  refine g_if_eq C at_138 (by decide) (pc' := 145) (by decide) (pcN := 141) rfl (fun _ => ?_) (fun q => absurd rfl q)
  refine g_iconst C (z := (0 : Int32)) at_145 (pc' := 146) rfl rfl ?_
  refine g_iadd C at_146 (pc' := 147) rfl ?_
  show Go w l _ n0 _ h0 0 0 147 #[.val (.int p0), .val (.int p1), .val (.int p2), .val (.int p3), .val (.int (2 : Int32)), .val (.int (1 : Int32)), .val (.int (1 : Int32)), .val (.int (0 : Int32)), .val (.int (3 : Int32)), .val (.int (3 : Int32)), .val (.int (6 : Int32)), .unset, .unset, .unset, .unset, .unset, .unset] [(.int (8 : Int32))]
  refine g_istore C at_147 (pc' := 149) rfl (Ls' := #[.val (.int p0), .val (.int p1), .val (.int p2), .val (.int p3), .val (.int (2 : Int32)), .val (.int (1 : Int32)), .val (.int (1 : Int32)), .val (.int (0 : Int32)), .val (.int (3 : Int32)), .val (.int (3 : Int32)), .val (.int (6 : Int32)), .val (.int (8 : Int32)), .unset, .unset, .unset, .unset, .unset]) rfl ?_
  refine g_iload C at_149 (pc' := 151) rfl rfl ?_
  refine g_newarr C (ad := "[B") (cap := 8) (hw _ (List.mem_of_getElem? (i := 3) rfl)) at_151 (pc' := 153) rfl rfl (by decide) (by decide) (by decide) (k' := 1) (n' := 8) rfl rfl (by decide) (by decide) rfl ?_
  intro h220 b220 E220 fb220 gb220 A220
  have ne_t_SEQUENCE_b220 : t_SEQUENCE ≠ b220 := Nat.ne_of_lt (Nat.lt_of_lt_of_le E_SEQUENCE.lt fb220)
  have ne_t_NULL_b220 : t_NULL ≠ b220 := Nat.ne_of_lt (Nat.lt_of_lt_of_le E_NULL.lt fb220)
  have ne_t_OCTET_STRING_b220 : t_OCTET_STRING ≠ b220 := Nat.ne_of_lt (Nat.lt_of_lt_of_le E_OCTET_STRING.lt fb220)
  have X := X.ext E220
  have E_SEQUENCE := E_SEQUENCE.ext E220
  have F_SEQUENCE := F_SEQUENCE.ext E220
  have E_NULL := E_NULL.ext E220
  have F_NULL := F_NULL.ext E220
  have E_OCTET_STRING := E_OCTET_STRING.ext E220
  have F_OCTET_STRING := F_OCTET_STRING.ext E220
  have A220 : Arf Z h220 b220 "[B" .byte (8 : Int32) (fun _ => (.int 0)) := A220
  refine g_astore C at_153 (pc' := 155) rfl rfl (Ls' := #[.val (.int p0), .val (.int p1), .val (.int p2), .val (.int p3), .val (.int (2 : Int32)), .val (.int (1 : Int32)), .val (.int (1 : Int32)), .val (.int (0 : Int32)), .val (.int (3 : Int32)), .val (.int (3 : Int32)), .val (.int (6 : Int32)), .val (.int (8 : Int32)), .val (.ref b220), .unset, .unset, .unset, .unset]) rfl ?_
  refine g_aload C at_155 (pc' := 157) rfl rfl rfl ?_
  refine g_iconst C (z := (0 : Int32)) at_157 (pc' := 158) rfl rfl ?_
  refine g_bipush C (z := (48 : Int32)) at_158 (pc' := 160) rfl rfl ?_
  refine g_bastore C A220 (by decide) (by decide) at_160 (pc' := 161) rfl gb220 (fun h221 W222 A220' => ?_)
  have X := X.wr W222 gb220
  have E_SEQUENCE := E_SEQUENCE.wr W222
  have F_SEQUENCE := F_SEQUENCE.other W222 (Or.inl ne_t_SEQUENCE_b220)
  have E_NULL := E_NULL.wr W222
  have F_NULL := F_NULL.other W222 (Or.inl ne_t_NULL_b220)
  have E_OCTET_STRING := E_OCTET_STRING.wr W222
  have F_OCTET_STRING := F_OCTET_STRING.other W222 (Or.inl ne_t_OCTET_STRING_b220)
  have A220 : Arf Z h221 b220 "[B" .byte (8 : Int32) (upd (fun _ => (.int 0)) 0 (.int (48 : Int32))) := A220'
  refine g_aload C at_161 (pc' := 163) rfl rfl rfl ?_
  refine g_iconst C (z := (1 : Int32)) at_163 (pc' := 164) rfl rfl ?_
  refine g_iload C at_164 (pc' := 166) rfl rfl ?_
  refine g_i2b C at_166 (pc' := 167) rfl ?_
  show Go w l _ n0 _ h221 1 8 167 #[.val (.int p0), .val (.int p1), .val (.int p2), .val (.int p3), .val (.int (2 : Int32)), .val (.int (1 : Int32)), .val (.int (1 : Int32)), .val (.int (0 : Int32)), .val (.int (3 : Int32)), .val (.int (3 : Int32)), .val (.int (6 : Int32)), .val (.int (8 : Int32)), .val (.ref b220), .unset, .unset, .unset, .unset] [(.int (6 : Int32)), (.int (1 : Int32)), (.ref b220)]
  refine g_bastore C A220 (by decide) (by decide) at_167 (pc' := 168) rfl gb220 (fun h223 W224 A220' => ?_)
  have X := X.wr W224 gb220
  have E_SEQUENCE := E_SEQUENCE.wr W224
  have F_SEQUENCE := F_SEQUENCE.other W224 (Or.inl ne_t_SEQUENCE_b220)
  have E_NULL := E_NULL.wr W224
  have F_NULL := F_NULL.other W224 (Or.inl ne_t_NULL_b220)
  have E_OCTET_STRING := E_OCTET_STRING.wr W224
  have F_OCTET_STRING := F_OCTET_STRING.other W224 (Or.inl ne_t_OCTET_STRING_b220)
  have A220 : Arf Z h223 b220 "[B" .byte (8 : Int32) (upd (upd (fun _ => (.int 0)) 0 (.int (48 : Int32))) 1 (.int (6 : Int32))) := A220'
  refine g_iconst C (z := (2 : Int32)) at_168 (pc' := 169) rfl rfl ?_
  refine g_istore C at_169 (pc' := 171) rfl (Ls' := #[.val (.int p0), .val (.int p1), .val (.int p2), .val (.int p3), .val (.int (2 : Int32)), .val (.int (1 : Int32)), .val (.int (1 : Int32)), .val (.int (0 : Int32)), .val (.int (3 : Int32)), .val (.int (3 : Int32)), .val (.int (6 : Int32)), .val (.int (8 : Int32)), .val (.ref b220), .val (.int (2 : Int32)), .unset, .unset, .unset]) rfl ?_
  refine g_iload C at_171 (pc' := 173) rfl rfl ?_
  refine g_if_le C at_173 (by decide) (pc' := 189) (by decide) (pcN := 176) rfl (fun q => absurd q (by decide)) (fun _ => ?_)
  refine g_aload C at_176 (pc' := 178) rfl rfl rfl ?_
  refine g_iload C at_178 (pc' := 180) rfl rfl ?_
  refine g_iload C at_180 (pc' := 182) rfl rfl ?_
  refine g_iloadN C at_182 (pc' := 183) rfl rfl ?_
  refine g_i2b C at_183 (pc' := 184) rfl ?_
  refine g_static (rm := R_m_put1) C (y := (⟨"com/example/sigillum/sigillum/codec/DerReaderHasMorePinLaw", "put", "([BIZB)I"⟩ : MethodName)) (hw _ (List.mem_of_getElem? (i := 54) rfl)) (hw _ (List.mem_of_getElem? (i := 55) rfl)) (hw _ (List.mem_of_getElem? (i := 56) rfl)) (hw _ (List.mem_of_getElem? (i := 57) rfl)) (by decide) at_184 (pc' := 187) rfl (argsL := [(.ref b220), (.int (2 : Int32)), (.int (1 : Int32)), (.int (p1.toInt8.toInt32))]) (rest := []) (lenOf pd_12 rfl) rfl (W := 0) (Nat.le_of_eq rfl) rfl (fun hn9 => Met.back (rm := R_m_put1) (m_put1 hw b220 (2 : Int32) (p1.toInt8.toInt32) (8 : Int32) (upd (upd (fun _ => (.int 0)) 0 (.int (48 : Int32))) 1 (.int (6 : Int32))) A220 gb220 (by decide) (by decide) (by decide) (by decide) (by decide) (by decide)) hn9 C.hZ (hw _ (List.mem_of_getElem? (i := 57) rfl)) (hw _ (List.mem_of_getElem? (i := 56) rfl)) (by decide) (by decide)) (k' := 1) (n' := 8) rfl rfl (by decide) (by decide) ?_
  rintro _ h225 ⟨rfl, Kp, Ap⟩
  have X := X.keep Kp (allS gb220 all0)
  have E_SEQUENCE := E_SEQUENCE.keep Kp
  have F_SEQUENCE := F_SEQUENCE.keep Kp (ninS ne_t_SEQUENCE_b220 nin0)
  have E_NULL := E_NULL.keep Kp
  have F_NULL := F_NULL.keep Kp (ninS ne_t_NULL_b220 nin0)
  have E_OCTET_STRING := E_OCTET_STRING.keep Kp
  have F_OCTET_STRING := F_OCTET_STRING.keep Kp (ninS ne_t_OCTET_STRING_b220 nin0)
  have A220 : Arf Z h225 b220 "[B" .byte (8 : Int32) (upd (upd (upd (upd (upd (fun _ => (.int 0)) 0 (.int (48 : Int32))) 1 (.int (6 : Int32))) 2 (.int (4 : Int32))) 3 (.int (1 : Int32))) 4 (.int (nar .byte (p1.toInt8.toInt32)))) := Ap
  show Go w l _ n0 _ h225 1 8 187 #[.val (.int p0), .val (.int p1), .val (.int p2), .val (.int p3), .val (.int (2 : Int32)), .val (.int (1 : Int32)), .val (.int (1 : Int32)), .val (.int (0 : Int32)), .val (.int (3 : Int32)), .val (.int (3 : Int32)), .val (.int (6 : Int32)), .val (.int (8 : Int32)), .val (.ref b220), .val (.int (2 : Int32)), .unset, .unset, .unset] [(.int (5 : Int32))]
  refine g_istore C at_187 (pc' := 189) rfl (Ls' := #[.val (.int p0), .val (.int p1), .val (.int p2), .val (.int p3), .val (.int (2 : Int32)), .val (.int (1 : Int32)), .val (.int (1 : Int32)), .val (.int (0 : Int32)), .val (.int (3 : Int32)), .val (.int (3 : Int32)), .val (.int (6 : Int32)), .val (.int (8 : Int32)), .val (.ref b220), .val (.int (5 : Int32)), .unset, .unset, .unset]) rfl ?_
  refine g_iload C at_189 (pc' := 191) rfl rfl ?_
  refine g_iconst C (z := (1 : Int32)) at_191 (pc' := 192) rfl rfl ?_
  refine g_icmp_le C at_192 (by decide) (pc' := 208) (by decide) (pcN := 195) rfl (fun q => absurd q (by decide)) (fun _ => ?_)
  refine g_aload C at_195 (pc' := 197) rfl rfl rfl ?_
  refine g_iload C at_197 (pc' := 199) rfl rfl ?_
  refine g_iload C at_199 (pc' := 201) rfl rfl ?_
  refine g_iloadN C at_201 (pc' := 202) rfl rfl ?_
  refine g_i2b C at_202 (pc' := 203) rfl ?_
  refine g_static (rm := R_m_put1) C (y := (⟨"com/example/sigillum/sigillum/codec/DerReaderHasMorePinLaw", "put", "([BIZB)I"⟩ : MethodName)) (hw _ (List.mem_of_getElem? (i := 54) rfl)) (hw _ (List.mem_of_getElem? (i := 55) rfl)) (hw _ (List.mem_of_getElem? (i := 56) rfl)) (hw _ (List.mem_of_getElem? (i := 57) rfl)) (by decide) at_203 (pc' := 206) rfl (argsL := [(.ref b220), (.int (5 : Int32)), (.int (1 : Int32)), (.int (p2.toInt8.toInt32))]) (rest := []) (lenOf pd_12 rfl) rfl (W := 0) (Nat.le_of_eq rfl) rfl (fun hn9 => Met.back (rm := R_m_put1) (m_put1 hw b220 (5 : Int32) (p2.toInt8.toInt32) (8 : Int32) (upd (upd (upd (upd (upd (fun _ => (.int 0)) 0 (.int (48 : Int32))) 1 (.int (6 : Int32))) 2 (.int (4 : Int32))) 3 (.int (1 : Int32))) 4 (.int (nar .byte (p1.toInt8.toInt32)))) A220 gb220 (by decide) (by decide) (by decide) (by decide) (by decide) (by decide)) hn9 C.hZ (hw _ (List.mem_of_getElem? (i := 57) rfl)) (hw _ (List.mem_of_getElem? (i := 56) rfl)) (by decide) (by decide)) (k' := 1) (n' := 8) rfl rfl (by decide) (by decide) ?_
  rintro _ h226 ⟨rfl, Kp, Ap⟩
  have X := X.keep Kp (allS gb220 all0)
  have E_SEQUENCE := E_SEQUENCE.keep Kp
  have F_SEQUENCE := F_SEQUENCE.keep Kp (ninS ne_t_SEQUENCE_b220 nin0)
  have E_NULL := E_NULL.keep Kp
  have F_NULL := F_NULL.keep Kp (ninS ne_t_NULL_b220 nin0)
  have E_OCTET_STRING := E_OCTET_STRING.keep Kp
  have F_OCTET_STRING := F_OCTET_STRING.keep Kp (ninS ne_t_OCTET_STRING_b220 nin0)
  have A220 : Arf Z h226 b220 "[B" .byte (8 : Int32) (upd (upd (upd (upd (upd (upd (upd (upd (fun _ => (.int 0)) 0 (.int (48 : Int32))) 1 (.int (6 : Int32))) 2 (.int (4 : Int32))) 3 (.int (1 : Int32))) 4 (.int (nar .byte (p1.toInt8.toInt32)))) 5 (.int (4 : Int32))) 6 (.int (1 : Int32))) 7 (.int (nar .byte (p2.toInt8.toInt32)))) := Ap
  show Go w l _ n0 _ h226 1 8 206 #[.val (.int p0), .val (.int p1), .val (.int p2), .val (.int p3), .val (.int (2 : Int32)), .val (.int (1 : Int32)), .val (.int (1 : Int32)), .val (.int (0 : Int32)), .val (.int (3 : Int32)), .val (.int (3 : Int32)), .val (.int (6 : Int32)), .val (.int (8 : Int32)), .val (.ref b220), .val (.int (5 : Int32)), .unset, .unset, .unset] [(.int (8 : Int32))]
  refine g_istore C at_206 (pc' := 208) rfl (Ls' := #[.val (.int p0), .val (.int p1), .val (.int p2), .val (.int p3), .val (.int (2 : Int32)), .val (.int (1 : Int32)), .val (.int (1 : Int32)), .val (.int (0 : Int32)), .val (.int (3 : Int32)), .val (.int (3 : Int32)), .val (.int (6 : Int32)), .val (.int (8 : Int32)), .val (.ref b220), .val (.int (8 : Int32)), .unset, .unset, .unset]) rfl ?_
  refine g_iload C at_208 (pc' := 210) rfl rfl ?_
  refine g_if_eq C at_210 (by decide) (pc' := 220) (by decide) (pcN := 213) rfl (fun _ => ?_) (fun q => absurd rfl q)
  refine g_new C (hw _ (List.mem_of_getElem? (i := 0) rfl)) (hw _ (List.mem_of_getElem? (i := 1) rfl)) (hw _ (List.mem_of_getElem? (i := 2) rfl)) at_220 (pc' := 223) rfl (k' := 2) (n' := 11) rfl rfl (by decide) (by decide) ?_
  intro h227 b227 E227 fb227 gb227 A227 D227
  have ne_t_SEQUENCE_b227 : t_SEQUENCE ≠ b227 := Nat.ne_of_lt (Nat.lt_of_lt_of_le E_SEQUENCE.lt fb227)
  have ne_t_NULL_b227 : t_NULL ≠ b227 := Nat.ne_of_lt (Nat.lt_of_lt_of_le E_NULL.lt fb227)
  have ne_t_OCTET_STRING_b227 : t_OCTET_STRING ≠ b227 := Nat.ne_of_lt (Nat.lt_of_lt_of_le E_OCTET_STRING.lt fb227)
  have ne_b220_b227 : b220 ≠ b227 := Nat.ne_of_lt (Nat.lt_of_lt_of_le A220.lt fb227)
  have X := X.ext E227
  have E_SEQUENCE := E_SEQUENCE.ext E227
  have F_SEQUENCE := F_SEQUENCE.ext E227
  have E_NULL := E_NULL.ext E227
  have F_NULL := F_NULL.ext E227
  have E_OCTET_STRING := E_OCTET_STRING.ext E227
  have F_OCTET_STRING := F_OCTET_STRING.ext E227
  have A220 := A220.ext E227
  have F227_der : Fld Z h227 b227 "com/example/sigillum/sigillum/codec/DerReader" "der" "[B" .null := D227 (Or.inr (hw _ (List.mem_of_getElem? (i := 23) rfl))) (ty := (.array .byte)) (by decide)
  have F227_position : Fld Z h227 b227 "com/example/sigillum/sigillum/codec/DerReader" "position" "I" (.int (0 : Int32)) := D227 (Or.inl (hw _ (List.mem_of_getElem? (i := 25) rfl))) (ty := .int) (by decide)
  have F227_end : Fld Z h227 b227 "com/example/sigillum/sigillum/codec/DerReader" "end" "I" (.int (0 : Int32)) := D227 (Or.inr (hw _ (List.mem_of_getElem? (i := 27) rfl))) (ty := .int) (by decide)
  refine g_dup C at_223 (pc' := 224) rfl rfl ?_
  refine g_aload C at_224 (pc' := 226) rfl rfl rfl ?_
  refine g_special (rm := R_m_init1) (a := b227) C (y := (⟨"com/example/sigillum/sigillum/codec/DerReader", "<init>", "([B)V"⟩ : MethodName)) rfl (hw _ (List.mem_of_getElem? (i := 4) rfl)) (hw _ (List.mem_of_getElem? (i := 5) rfl)) (hw _ (List.mem_of_getElem? (i := 6) rfl)) (by decide) at_226 (pc' := 229) rfl (argsL := [(.ref b220)]) (rest := [(.ref b227)]) (lenOf pd_10 rfl) rfl (W := 1) (Nat.le_of_eq rfl) rfl (fun hn9 => Met.back (rm := R_m_init1) (m_init1 hw b227 b220 (8 : Int32) (upd (upd (upd (upd (upd (upd (upd (upd (fun _ => (.int 0)) 0 (.int (48 : Int32))) 1 (.int (6 : Int32))) 2 (.int (4 : Int32))) 3 (.int (1 : Int32))) 4 (.int (nar .byte (p1.toInt8.toInt32)))) 5 (.int (4 : Int32))) 6 (.int (1 : Int32))) 7 (.int (nar .byte (p2.toInt8.toInt32)))) ⟨A227, F227_der, F227_position, F227_end⟩ A220 (by decide) gb227) hn9 C.hZ (hw _ (List.mem_of_getElem? (i := 6) rfl)) (hw _ (List.mem_of_getElem? (i := 2) rfl)) (by decide) (by decide)) (k' := 3) (n' := 20) rfl rfl (by decide) (by decide) ?_
  rintro _ h228 ⟨rfl, Ki, t_b227, ft_b227, gt_b227, ⟨E_b227, F1_b227, F2_b227, F3_b227⟩, At_b227⟩
  have ne_t_SEQUENCE_t_b227 : t_SEQUENCE ≠ t_b227 := Nat.ne_of_lt (Nat.lt_of_lt_of_le E_SEQUENCE.lt ft_b227)
  have ne_t_NULL_t_b227 : t_NULL ≠ t_b227 := Nat.ne_of_lt (Nat.lt_of_lt_of_le E_NULL.lt ft_b227)
  have ne_t_OCTET_STRING_t_b227 : t_OCTET_STRING ≠ t_b227 := Nat.ne_of_lt (Nat.lt_of_lt_of_le E_OCTET_STRING.lt ft_b227)
  have ne_b220_t_b227 : b220 ≠ t_b227 := Nat.ne_of_lt (Nat.lt_of_lt_of_le A220.lt ft_b227)
  have ne_b227_t_b227 : b227 ≠ t_b227 := Nat.ne_of_lt (Nat.lt_of_lt_of_le A227.lt ft_b227)
  have X := X.keep Ki (allS gb227 all0)
  have E_SEQUENCE := E_SEQUENCE.keep Ki
  have F_SEQUENCE := F_SEQUENCE.keep Ki (ninS ne_t_SEQUENCE_b227 nin0)
  have E_NULL := E_NULL.keep Ki
  have F_NULL := F_NULL.keep Ki (ninS ne_t_NULL_b227 nin0)
  have E_OCTET_STRING := E_OCTET_STRING.keep Ki
  have F_OCTET_STRING := F_OCTET_STRING.keep Ki (ninS ne_t_OCTET_STRING_b227 nin0)
  have A220 := A220.keep Ki (ninS ne_b220_b227 nin0)
  have A227 := A227.keep Ki
  show Go w l _ n0 _ h228 3 20 229 #[.val (.int p0), .val (.int p1), .val (.int p2), .val (.int p3), .val (.int (2 : Int32)), .val (.int (1 : Int32)), .val (.int (1 : Int32)), .val (.int (0 : Int32)), .val (.int (3 : Int32)), .val (.int (3 : Int32)), .val (.int (6 : Int32)), .val (.int (8 : Int32)), .val (.ref b220), .val (.int (8 : Int32)), .unset, .unset, .unset] [(.ref b227)]
  refine g_astore C at_229 (pc' := 231) rfl rfl (Ls' := #[.val (.int p0), .val (.int p1), .val (.int p2), .val (.int p3), .val (.int (2 : Int32)), .val (.int (1 : Int32)), .val (.int (1 : Int32)), .val (.int (0 : Int32)), .val (.int (3 : Int32)), .val (.int (3 : Int32)), .val (.int (6 : Int32)), .val (.int (8 : Int32)), .val (.ref b220), .val (.int (8 : Int32)), .val (.ref b227), .unset, .unset]) rfl ?_
  refine g_aload C at_231 (pc' := 233) rfl rfl rfl ?_
  refine g_virtual (rm := R_m_hasMore) (a := b227) C (y := (⟨"com/example/sigillum/sigillum/codec/DerReader", "hasMore", "()Z"⟩ : MethodName)) (y' := (⟨"com/example/sigillum/sigillum/codec/DerReader", "hasMore", "()Z"⟩ : MethodName)) (hw _ (List.mem_of_getElem? (i := 28) rfl)) (hw _ (List.mem_of_getElem? (i := 29) rfl)) (g_nf C (hw _ (List.mem_of_getElem? (i := 31) rfl))) (hw _ (List.mem_of_getElem? (i := 31) rfl)) (hw _ (List.mem_of_getElem? (i := 30) rfl)) (by decide) E_b227 at_233 (pc' := 236) rfl (argsL := []) (rest := []) (lenOf pd_1 rfl) rfl (W := 0) (Nat.le_of_eq rfl) rfl (fun hn9 => Met.back (rm := R_m_hasMore) (m_hasMore hw b227 (0 : Int32) (8 : Int32) F2_b227 F3_b227) hn9 C.hZ (hw _ (List.mem_of_getElem? (i := 32) rfl)) (hw _ (List.mem_of_getElem? (i := 2) rfl)) (by decide) (by decide)) (k' := 3) (n' := 20) rfl rfl (by decide) (by decide) ?_
  rintro _ _ ⟨rfl, rfl⟩
  show Go w l _ n0 _ h228 3 20 236 #[.val (.int p0), .val (.int p1), .val (.int p2), .val (.int p3), .val (.int (2 : Int32)), .val (.int (1 : Int32)), .val (.int (1 : Int32)), .val (.int (0 : Int32)), .val (.int (3 : Int32)), .val (.int (3 : Int32)), .val (.int (6 : Int32)), .val (.int (8 : Int32)), .val (.ref b220), .val (.int (8 : Int32)), .val (.ref b227), .unset, .unset] [(.int (1 : Int32))]
  refine g_istore C at_236 (pc' := 238) rfl (Ls' := #[.val (.int p0), .val (.int p1), .val (.int p2), .val (.int p3), .val (.int (2 : Int32)), .val (.int (1 : Int32)), .val (.int (1 : Int32)), .val (.int (0 : Int32)), .val (.int (3 : Int32)), .val (.int (3 : Int32)), .val (.int (6 : Int32)), .val (.int (8 : Int32)), .val (.ref b220), .val (.int (8 : Int32)), .val (.ref b227), .val (.int (1 : Int32)), .unset]) rfl ?_
  refine g_aload C at_238 (pc' := 240) rfl rfl rfl ?_
  refine g_virtual (rm := R_m_seq) (a := b227) C (y := (⟨"com/example/sigillum/sigillum/codec/DerReader", "sequence", "()Lcom/example/sigillum/sigillum/codec/DerReader;"⟩ : MethodName)) (y' := (⟨"com/example/sigillum/sigillum/codec/DerReader", "sequence", "()Lcom/example/sigillum/sigillum/codec/DerReader;"⟩ : MethodName)) (hw _ (List.mem_of_getElem? (i := 33) rfl)) (hw _ (List.mem_of_getElem? (i := 34) rfl)) (g_nf C (hw _ (List.mem_of_getElem? (i := 36) rfl))) (hw _ (List.mem_of_getElem? (i := 36) rfl)) (hw _ (List.mem_of_getElem? (i := 35) rfl)) (by decide) E_b227 at_240 (pc' := 243) rfl (argsL := []) (rest := []) (lenOf pd_11 rfl) rfl (W := 0) (Nat.le_of_eq rfl) rfl (fun hn9 => Met.back (rm := R_m_seq) (m_seq hw b227 t_b227 t_SEQUENCE (0 : Int32) (8 : Int32) (8 : Int32) (48 : Int32) (6 : Int32) (6 : Int32) (48 : Int32) (2 : Int32) (upd (upd (upd (upd (upd (upd (upd (upd (fun _ => (.int 0)) 0 (.int (48 : Int32))) 1 (.int (6 : Int32))) 2 (.int (4 : Int32))) 3 (.int (1 : Int32))) 4 (.int (nar .byte (p1.toInt8.toInt32)))) 5 (.int (4 : Int32))) 6 (.int (1 : Int32))) 7 (.int (nar .byte (p2.toInt8.toInt32)))) (8 : Int32) ⟨E_b227, F1_b227, F2_b227, F3_b227⟩ At_b227 E_SEQUENCE F_SEQUENCE gb227 (Ne.symm ne_b227_t_b227) (by decide) (by decide) (by decide) rfl (by decide) (by decide) (by decide) (by decide) rfl (by decide) (by decide) (by decide) (by decide) (by decide) (S_SEQUENCE.ext X.2)) hn9 C.hZ (hw _ (List.mem_of_getElem? (i := 37) rfl)) (hw _ (List.mem_of_getElem? (i := 2) rfl)) (by decide) (by decide)) (k' := 4) (n' := 23) rfl rfl (by decide) (by decide) ?_
  rintro _ h229 ⟨sq, rfl, fsq, gsq, Ks, ⟨E_b227, F1_b227, F2_b227, F3_b227⟩, ⟨E_sq, F1_sq, F2_sq, F3_sq⟩⟩
  have ne_t_SEQUENCE_sq : t_SEQUENCE ≠ sq := Nat.ne_of_lt (Nat.lt_of_lt_of_le E_SEQUENCE.lt fsq)
  have ne_t_NULL_sq : t_NULL ≠ sq := Nat.ne_of_lt (Nat.lt_of_lt_of_le E_NULL.lt fsq)
  have ne_t_OCTET_STRING_sq : t_OCTET_STRING ≠ sq := Nat.ne_of_lt (Nat.lt_of_lt_of_le E_OCTET_STRING.lt fsq)
  have ne_b220_sq : b220 ≠ sq := Nat.ne_of_lt (Nat.lt_of_lt_of_le A220.lt fsq)
  have ne_t_b227_sq : t_b227 ≠ sq := Nat.ne_of_lt (Nat.lt_of_lt_of_le At_b227.lt fsq)
  have X := X.keep Ks (allS gb227 all0)
  have E_SEQUENCE := E_SEQUENCE.keep Ks
  have F_SEQUENCE := F_SEQUENCE.keep Ks (ninS ne_t_SEQUENCE_b227 nin0)
  have E_NULL := E_NULL.keep Ks
  have F_NULL := F_NULL.keep Ks (ninS ne_t_NULL_b227 nin0)
  have E_OCTET_STRING := E_OCTET_STRING.keep Ks
  have F_OCTET_STRING := F_OCTET_STRING.keep Ks (ninS ne_t_OCTET_STRING_b227 nin0)
  have A220 := A220.keep Ks (ninS ne_b220_b227 nin0)
  have At_b227 := At_b227.keep Ks (ninS (Ne.symm ne_b227_t_b227) nin0)
  show Go w l _ n0 _ h229 4 23 243 #[.val (.int p0), .val (.int p1), .val (.int p2), .val (.int p3), .val (.int (2 : Int32)), .val (.int (1 : Int32)), .val (.int (1 : Int32)), .val (.int (0 : Int32)), .val (.int (3 : Int32)), .val (.int (3 : Int32)), .val (.int (6 : Int32)), .val (.int (8 : Int32)), .val (.ref b220), .val (.int (8 : Int32)), .val (.ref b227), .val (.int (1 : Int32)), .unset] [(.ref sq)]
  refine g_astore C at_243 (pc' := 245) rfl rfl (Ls' := #[.val (.int p0), .val (.int p1), .val (.int p2), .val (.int p3), .val (.int (2 : Int32)), .val (.int (1 : Int32)), .val (.int (1 : Int32)), .val (.int (0 : Int32)), .val (.int (3 : Int32)), .val (.int (3 : Int32)), .val (.int (6 : Int32)), .val (.int (8 : Int32)), .val (.ref b220), .val (.int (8 : Int32)), .val (.ref b227), .val (.int (1 : Int32)), .val (.ref sq)]) rfl ?_
  refine g_iload C at_245 (pc' := 247) rfl rfl ?_
  refine g_if_eq C at_247 (by decide) (pc' := 264) (by decide) (pcN := 250) rfl (fun q => absurd q (by decide)) (fun _ => ?_)
  refine g_aload C at_250 (pc' := 252) rfl rfl rfl ?_
  refine g_virtual (rm := R_m_hasMore) (a := b227) C (y := (⟨"com/example/sigillum/sigillum/codec/DerReader", "hasMore", "()Z"⟩ : MethodName)) (y' := (⟨"com/example/sigillum/sigillum/codec/DerReader", "hasMore", "()Z"⟩ : MethodName)) (hw _ (List.mem_of_getElem? (i := 28) rfl)) (hw _ (List.mem_of_getElem? (i := 29) rfl)) (g_nf C (hw _ (List.mem_of_getElem? (i := 31) rfl))) (hw _ (List.mem_of_getElem? (i := 31) rfl)) (hw _ (List.mem_of_getElem? (i := 30) rfl)) (by decide) E_b227 at_252 (pc' := 255) rfl (argsL := []) (rest := []) (lenOf pd_1 rfl) rfl (W := 0) (Nat.le_of_eq rfl) rfl (fun hn9 => Met.back (rm := R_m_hasMore) (m_hasMore hw b227 (8 : Int32) (8 : Int32) F2_b227 F3_b227) hn9 C.hZ (hw _ (List.mem_of_getElem? (i := 32) rfl)) (hw _ (List.mem_of_getElem? (i := 2) rfl)) (by decide) (by decide)) (k' := 4) (n' := 23) rfl rfl (by decide) (by decide) ?_
  rintro _ _ ⟨rfl, rfl⟩
  show Go w l _ n0 _ h229 4 23 255 #[.val (.int p0), .val (.int p1), .val (.int p2), .val (.int p3), .val (.int (2 : Int32)), .val (.int (1 : Int32)), .val (.int (1 : Int32)), .val (.int (0 : Int32)), .val (.int (3 : Int32)), .val (.int (3 : Int32)), .val (.int (6 : Int32)), .val (.int (8 : Int32)), .val (.ref b220), .val (.int (8 : Int32)), .val (.ref b227), .val (.int (1 : Int32)), .val (.ref sq)] [(.int (0 : Int32))]
  refine g_iload C at_255 (pc' := 257) rfl rfl ?_
  refine g_icmp_ne C at_257 (by decide) (pc' := 264) (by decide) (pcN := 260) rfl (fun q => absurd rfl q) (fun _ => ?_)
  refine g_iconst C (z := (1 : Int32)) at_260 (pc' := 261) rfl rfl ?_
  refine g_goto C at_261 (by decide) (pc' := 265) (by decide) ?_
  refine g_istore C at_265 (pc' := 267) rfl (Ls' := #[.val (.int p0), .val (.int p1), .val (.int p2), .val (.int p3), .val (.int (2 : Int32)), .val (.int (1 : Int32)), .val (.int (1 : Int32)), .val (.int (0 : Int32)), .val (.int (3 : Int32)), .val (.int (3 : Int32)), .val (.int (6 : Int32)), .val (.int (8 : Int32)), .val (.ref b220), .val (.int (8 : Int32)), .val (.ref b227), .val (.int (1 : Int32)), .val (.ref sq)]) rfl ?_
  refine g_iload C at_267 (pc' := 269) rfl rfl ?_
  refine g_if_eq C at_269 (by decide) (pc' := 294) (by decide) (pcN := 272) rfl (fun q => absurd q (by decide)) (fun _ => ?_)
  refine g_aload C at_272 (pc' := 274) rfl rfl rfl ?_
  refine g_virtual (rm := R_m_hasMore) (a := sq) C (y := (⟨"com/example/sigillum/sigillum/codec/DerReader", "hasMore", "()Z"⟩ : MethodName)) (y' := (⟨"com/example/sigillum/sigillum/codec/DerReader", "hasMore", "()Z"⟩ : MethodName)) (hw _ (List.mem_of_getElem? (i := 28) rfl)) (hw _ (List.mem_of_getElem? (i := 29) rfl)) (g_nf C (hw _ (List.mem_of_getElem? (i := 31) rfl))) (hw _ (List.mem_of_getElem? (i := 31) rfl)) (hw _ (List.mem_of_getElem? (i := 30) rfl)) (by decide) E_sq at_274 (pc' := 277) rfl (argsL := []) (rest := []) (lenOf pd_1 rfl) rfl (W := 0) (Nat.le_of_eq rfl) rfl (fun hn9 => Met.back (rm := R_m_hasMore) (m_hasMore hw sq (2 : Int32) (8 : Int32) F2_sq F3_sq) hn9 C.hZ (hw _ (List.mem_of_getElem? (i := 32) rfl)) (hw _ (List.mem_of_getElem? (i := 2) rfl)) (by decide) (by decide)) (k' := 4) (n' := 23) rfl rfl (by decide) (by decide) ?_
  rintro _ _ ⟨rfl, rfl⟩
  show Go w l _ n0 _ h229 4 23 277 #[.val (.int p0), .val (.int p1), .val (.int p2), .val (.int p3), .val (.int (2 : Int32)), .val (.int (1 : Int32)), .val (.int (1 : Int32)), .val (.int (0 : Int32)), .val (.int (3 : Int32)), .val (.int (3 : Int32)), .val (.int (6 : Int32)), .val (.int (8 : Int32)), .val (.ref b220), .val (.int (8 : Int32)), .val (.ref b227), .val (.int (1 : Int32)), .val (.ref sq)] [(.int (1 : Int32))]
  refine g_iload C at_277 (pc' := 279) rfl rfl ?_
  refine g_if_le C at_279 (by decide) (pc' := 286) (by decide) (pcN := 282) rfl (fun q => absurd q (by decide)) (fun _ => ?_)
  refine g_iconst C (z := (1 : Int32)) at_282 (pc' := 283) rfl rfl ?_
  refine g_goto C at_283 (by decide) (pc' := 287) (by decide) ?_
  refine g_icmp_ne C at_287 (by decide) (pc' := 294) (by decide) (pcN := 290) rfl (fun q => absurd rfl q) (fun _ => ?_)
  refine g_iconst C (z := (1 : Int32)) at_290 (pc' := 291) rfl rfl ?_
  refine g_goto C at_291 (by decide) (pc' := 295) (by decide) ?_
  refine g_istore C at_295 (pc' := 297) rfl (Ls' := #[.val (.int p0), .val (.int p1), .val (.int p2), .val (.int p3), .val (.int (2 : Int32)), .val (.int (1 : Int32)), .val (.int (1 : Int32)), .val (.int (0 : Int32)), .val (.int (3 : Int32)), .val (.int (3 : Int32)), .val (.int (6 : Int32)), .val (.int (8 : Int32)), .val (.ref b220), .val (.int (8 : Int32)), .val (.ref b227), .val (.int (1 : Int32)), .val (.ref sq)]) rfl ?_
  refine g_iload C at_297 (pc' := 299) rfl rfl ?_
  refine g_if_le C at_299 (by decide) (pc' := 340) (by decide) (pcN := 302) rfl (fun q => absurd q (by decide)) (fun _ => ?_)
  refine g_aload C at_302 (pc' := 304) rfl rfl rfl ?_
  refine g_iload C at_304 (pc' := 306) rfl rfl ?_
  refine g_static (rm := R_m_read1) C (y := (⟨"com/example/sigillum/sigillum/codec/DerReaderHasMorePinLaw", "read", "(Lcom/example/sigillum/sigillum/codec/DerReader;Z)V"⟩ : MethodName)) (hw _ (List.mem_of_getElem? (i := 58) rfl)) (hw _ (List.mem_of_getElem? (i := 59) rfl)) (hw _ (List.mem_of_getElem? (i := 56) rfl)) (hw _ (List.mem_of_getElem? (i := 60) rfl)) (by decide) at_306 (pc' := 309) rfl (argsL := [(.ref sq), (.int (1 : Int32))]) (rest := []) (lenOf pd_13 rfl) rfl (W := 0) (Nat.le_of_eq rfl) rfl (fun hn9 => Met.back (rm := R_m_read1) (m_read1 hw sq t_b227 t_OCTET_STRING (2 : Int32) (8 : Int32) (8 : Int32) (4 : Int32) (1 : Int32) (1 : Int32) (4 : Int32) (4 : Int32) (upd (upd (upd (upd (upd (upd (upd (upd (fun _ => (.int 0)) 0 (.int (48 : Int32))) 1 (.int (6 : Int32))) 2 (.int (4 : Int32))) 3 (.int (1 : Int32))) 4 (.int (nar .byte (p1.toInt8.toInt32)))) 5 (.int (4 : Int32))) 6 (.int (1 : Int32))) 7 (.int (nar .byte (p2.toInt8.toInt32)))) ⟨E_sq, F1_sq, F2_sq, F3_sq⟩ At_b227 E_OCTET_STRING F_OCTET_STRING gsq ne_t_b227_sq (by decide) (by decide) (by decide) rfl (by decide) (by decide) (by decide) (by decide) rfl (by decide) (by decide) (by decide) (by decide) (5 : Int32) (1 : Int32) (by decide) (by decide) (by decide) (by decide) (by decide) (by decide) (by decide) (by decide) (by decide) (by decide) (by decide) (S_OCTET_STRING.ext X.2)) hn9 C.hZ (hw _ (List.mem_of_getElem? (i := 60) rfl)) (hw _ (List.mem_of_getElem? (i := 56) rfl)) (by decide) (by decide)) (k' := 5) (n' := 26) rfl rfl (by decide) (by decide) ?_
  rintro _ h230 ⟨rfl, Kr, ⟨E_sq, F1_sq, F2_sq, F3_sq⟩⟩
  have X := X.keep Kr (allS gsq all0)
  have E_SEQUENCE := E_SEQUENCE.keep Kr
  have F_SEQUENCE := F_SEQUENCE.keep Kr (ninS ne_t_SEQUENCE_sq nin0)
  have E_NULL := E_NULL.keep Kr
  have F_NULL := F_NULL.keep Kr (ninS ne_t_NULL_sq nin0)
  have E_OCTET_STRING := E_OCTET_STRING.keep Kr
  have F_OCTET_STRING := F_OCTET_STRING.keep Kr (ninS ne_t_OCTET_STRING_sq nin0)
  have A220 := A220.keep Kr (ninS ne_b220_sq nin0)
  have At_b227 := At_b227.keep Kr (ninS ne_t_b227_sq nin0)
  have E_b227 := E_b227.keep Kr
  show Go w l _ n0 _ h230 5 26 309 #[.val (.int p0), .val (.int p1), .val (.int p2), .val (.int p3), .val (.int (2 : Int32)), .val (.int (1 : Int32)), .val (.int (1 : Int32)), .val (.int (0 : Int32)), .val (.int (3 : Int32)), .val (.int (3 : Int32)), .val (.int (6 : Int32)), .val (.int (8 : Int32)), .val (.ref b220), .val (.int (8 : Int32)), .val (.ref b227), .val (.int (1 : Int32)), .val (.ref sq)] []
  refine g_iload C at_309 (pc' := 311) rfl rfl ?_
  refine g_if_eq C at_311 (by decide) (pc' := 337) (by decide) (pcN := 314) rfl (fun q => absurd q (by decide)) (fun _ => ?_)
  refine g_aload C at_314 (pc' := 316) rfl rfl rfl ?_
  refine g_virtual (rm := R_m_hasMore) (a := sq) C (y := (⟨"com/example/sigillum/sigillum/codec/DerReader", "hasMore", "()Z"⟩ : MethodName)) (y' := (⟨"com/example/sigillum/sigillum/codec/DerReader", "hasMore", "()Z"⟩ : MethodName)) (hw _ (List.mem_of_getElem? (i := 28) rfl)) (hw _ (List.mem_of_getElem? (i := 29) rfl)) (g_nf C (hw _ (List.mem_of_getElem? (i := 31) rfl))) (hw _ (List.mem_of_getElem? (i := 31) rfl)) (hw _ (List.mem_of_getElem? (i := 30) rfl)) (by decide) E_sq at_316 (pc' := 319) rfl (argsL := []) (rest := []) (lenOf pd_1 rfl) rfl (W := 0) (Nat.le_of_eq rfl) rfl (fun hn9 => Met.back (rm := R_m_hasMore) (m_hasMore hw sq (5 : Int32) (8 : Int32) F2_sq F3_sq) hn9 C.hZ (hw _ (List.mem_of_getElem? (i := 32) rfl)) (hw _ (List.mem_of_getElem? (i := 2) rfl)) (by decide) (by decide)) (k' := 5) (n' := 26) rfl rfl (by decide) (by decide) ?_
  rintro _ _ ⟨rfl, rfl⟩
  show Go w l _ n0 _ h230 5 26 319 #[.val (.int p0), .val (.int p1), .val (.int p2), .val (.int p3), .val (.int (2 : Int32)), .val (.int (1 : Int32)), .val (.int (1 : Int32)), .val (.int (0 : Int32)), .val (.int (3 : Int32)), .val (.int (3 : Int32)), .val (.int (6 : Int32)), .val (.int (8 : Int32)), .val (.ref b220), .val (.int (8 : Int32)), .val (.ref b227), .val (.int (1 : Int32)), .val (.ref sq)] [(.int (1 : Int32))]
  refine g_iload C at_319 (pc' := 321) rfl rfl ?_
  refine g_iconst C (z := (1 : Int32)) at_321 (pc' := 322) rfl rfl ?_
  refine g_icmp_le C at_322 (by decide) (pc' := 329) (by decide) (pcN := 325) rfl (fun q => absurd q (by decide)) (fun _ => ?_)
  refine g_iconst C (z := (1 : Int32)) at_325 (pc' := 326) rfl rfl ?_
  refine g_goto C at_326 (by decide) (pc' := 330) (by decide) ?_
  refine g_icmp_ne C at_330 (by decide) (pc' := 337) (by decide) (pcN := 333) rfl (fun q => absurd rfl q) (fun _ => ?_)
  refine g_iconst C (z := (1 : Int32)) at_333 (pc' := 334) rfl rfl ?_
  refine g_goto C at_334 (by decide) (pc' := 338) (by decide) ?_
  refine g_istore C at_338 (pc' := 340) rfl (Ls' := #[.val (.int p0), .val (.int p1), .val (.int p2), .val (.int p3), .val (.int (2 : Int32)), .val (.int (1 : Int32)), .val (.int (1 : Int32)), .val (.int (0 : Int32)), .val (.int (3 : Int32)), .val (.int (3 : Int32)), .val (.int (6 : Int32)), .val (.int (8 : Int32)), .val (.ref b220), .val (.int (8 : Int32)), .val (.ref b227), .val (.int (1 : Int32)), .val (.ref sq)]) rfl ?_
  refine g_iload C at_340 (pc' := 342) rfl rfl ?_
  refine g_iconst C (z := (1 : Int32)) at_342 (pc' := 343) rfl rfl ?_
  refine g_icmp_le C at_343 (by decide) (pc' := 373) (by decide) (pcN := 346) rfl (fun q => absurd q (by decide)) (fun _ => ?_)
  refine g_aload C at_346 (pc' := 348) rfl rfl rfl ?_
  refine g_iload C at_348 (pc' := 350) rfl rfl ?_
  refine g_static (rm := R_m_read1) C (y := (⟨"com/example/sigillum/sigillum/codec/DerReaderHasMorePinLaw", "read", "(Lcom/example/sigillum/sigillum/codec/DerReader;Z)V"⟩ : MethodName)) (hw _ (List.mem_of_getElem? (i := 58) rfl)) (hw _ (List.mem_of_getElem? (i := 59) rfl)) (hw _ (List.mem_of_getElem? (i := 56) rfl)) (hw _ (List.mem_of_getElem? (i := 60) rfl)) (by decide) at_350 (pc' := 353) rfl (argsL := [(.ref sq), (.int (1 : Int32))]) (rest := []) (lenOf pd_13 rfl) rfl (W := 0) (Nat.le_of_eq rfl) rfl (fun hn9 => Met.back (rm := R_m_read1) (m_read1 hw sq t_b227 t_OCTET_STRING (5 : Int32) (8 : Int32) (8 : Int32) (4 : Int32) (1 : Int32) (1 : Int32) (4 : Int32) (7 : Int32) (upd (upd (upd (upd (upd (upd (upd (upd (fun _ => (.int 0)) 0 (.int (48 : Int32))) 1 (.int (6 : Int32))) 2 (.int (4 : Int32))) 3 (.int (1 : Int32))) 4 (.int (nar .byte (p1.toInt8.toInt32)))) 5 (.int (4 : Int32))) 6 (.int (1 : Int32))) 7 (.int (nar .byte (p2.toInt8.toInt32)))) ⟨E_sq, F1_sq, F2_sq, F3_sq⟩ At_b227 E_OCTET_STRING F_OCTET_STRING gsq ne_t_b227_sq (by decide) (by decide) (by decide) rfl (by decide) (by decide) (by decide) (by decide) rfl (by decide) (by decide) (by decide) (by decide) (8 : Int32) (1 : Int32) (by decide) (by decide) (by decide) (by decide) (by decide) (by decide) (by decide) (by decide) (by decide) (by decide) (by decide) (S_OCTET_STRING.ext X.2)) hn9 C.hZ (hw _ (List.mem_of_getElem? (i := 60) rfl)) (hw _ (List.mem_of_getElem? (i := 56) rfl)) (by decide) (by decide)) (k' := 6) (n' := 29) rfl rfl (by decide) (by decide) ?_
  rintro _ h231 ⟨rfl, Kr, ⟨E_sq, F1_sq, F2_sq, F3_sq⟩⟩
  have X := X.keep Kr (allS gsq all0)
  have E_SEQUENCE := E_SEQUENCE.keep Kr
  have F_SEQUENCE := F_SEQUENCE.keep Kr (ninS ne_t_SEQUENCE_sq nin0)
  have E_NULL := E_NULL.keep Kr
  have F_NULL := F_NULL.keep Kr (ninS ne_t_NULL_sq nin0)
  have E_OCTET_STRING := E_OCTET_STRING.keep Kr
  have F_OCTET_STRING := F_OCTET_STRING.keep Kr (ninS ne_t_OCTET_STRING_sq nin0)
  have A220 := A220.keep Kr (ninS ne_b220_sq nin0)
  have At_b227 := At_b227.keep Kr (ninS ne_t_b227_sq nin0)
  have E_b227 := E_b227.keep Kr
  show Go w l _ n0 _ h231 6 29 353 #[.val (.int p0), .val (.int p1), .val (.int p2), .val (.int p3), .val (.int (2 : Int32)), .val (.int (1 : Int32)), .val (.int (1 : Int32)), .val (.int (0 : Int32)), .val (.int (3 : Int32)), .val (.int (3 : Int32)), .val (.int (6 : Int32)), .val (.int (8 : Int32)), .val (.ref b220), .val (.int (8 : Int32)), .val (.ref b227), .val (.int (1 : Int32)), .val (.ref sq)] []
  refine g_iload C at_353 (pc' := 355) rfl rfl ?_
  refine g_if_eq C at_355 (by decide) (pc' := 370) (by decide) (pcN := 358) rfl (fun q => absurd q (by decide)) (fun _ => ?_)
  refine g_aload C at_358 (pc' := 360) rfl rfl rfl ?_
  refine g_virtual (rm := R_m_hasMore) (a := sq) C (y := (⟨"com/example/sigillum/sigillum/codec/DerReader", "hasMore", "()Z"⟩ : MethodName)) (y' := (⟨"com/example/sigillum/sigillum/codec/DerReader", "hasMore", "()Z"⟩ : MethodName)) (hw _ (List.mem_of_getElem? (i := 28) rfl)) (hw _ (List.mem_of_getElem? (i := 29) rfl)) (g_nf C (hw _ (List.mem_of_getElem? (i := 31) rfl))) (hw _ (List.mem_of_getElem? (i := 31) rfl)) (hw _ (List.mem_of_getElem? (i := 30) rfl)) (by decide) E_sq at_360 (pc' := 363) rfl (argsL := []) (rest := []) (lenOf pd_1 rfl) rfl (W := 0) (Nat.le_of_eq rfl) rfl (fun hn9 => Met.back (rm := R_m_hasMore) (m_hasMore hw sq (8 : Int32) (8 : Int32) F2_sq F3_sq) hn9 C.hZ (hw _ (List.mem_of_getElem? (i := 32) rfl)) (hw _ (List.mem_of_getElem? (i := 2) rfl)) (by decide) (by decide)) (k' := 6) (n' := 29) rfl rfl (by decide) (by decide) ?_
  rintro _ _ ⟨rfl, rfl⟩
  show Go w l _ n0 _ h231 6 29 363 #[.val (.int p0), .val (.int p1), .val (.int p2), .val (.int p3), .val (.int (2 : Int32)), .val (.int (1 : Int32)), .val (.int (1 : Int32)), .val (.int (0 : Int32)), .val (.int (3 : Int32)), .val (.int (3 : Int32)), .val (.int (6 : Int32)), .val (.int (8 : Int32)), .val (.ref b220), .val (.int (8 : Int32)), .val (.ref b227), .val (.int (1 : Int32)), .val (.ref sq)] [(.int (0 : Int32))]
  refine g_if_ne C at_363 (by decide) (pc' := 370) (by decide) (pcN := 366) rfl (fun q => absurd rfl q) (fun _ => ?_)
  refine g_iconst C (z := (1 : Int32)) at_366 (pc' := 367) rfl rfl ?_
  refine g_goto C at_367 (by decide) (pc' := 371) (by decide) ?_
  refine g_istore C at_371 (pc' := 373) rfl (Ls' := #[.val (.int p0), .val (.int p1), .val (.int p2), .val (.int p3), .val (.int (2 : Int32)), .val (.int (1 : Int32)), .val (.int (1 : Int32)), .val (.int (0 : Int32)), .val (.int (3 : Int32)), .val (.int (3 : Int32)), .val (.int (6 : Int32)), .val (.int (8 : Int32)), .val (.ref b220), .val (.int (8 : Int32)), .val (.ref b227), .val (.int (1 : Int32)), .val (.ref sq)]) rfl ?_
  refine g_iload C at_373 (pc' := 375) rfl rfl ?_
  exact g_retN C (t := .boolean) rfl (by simp) at_375 rfl (by decide) (by decide)
set_option maxRecDepth 65536 in
set_option maxHeartbeats 40000000 in
theorem seg82_2111 {l : Launch} {Z : State} {a0 : Array Value} (hw : ∀ d ∈ tables_1, d.before a0 Z = true) {w : Wk} {n0 : Nat} {h0 : Heap} {Y : State → Outcome → Prop} (p0 p1 p2 p3 : Int32) (t_SEQUENCE t_NULL t_OCTET_STRING : Addr) (C : Cx w Z "com/example/sigillum/sigillum/codec/DerReaderHasMorePinLaw" code 17 (some .boolean) "law" room_1 n0 (fun v _ => v = some (.int 1)) Y) (X : Old Z n0 h0) (S_SEQUENCE : Sta Z Z.heap "com/example/sigillum/sigillum/codec/DerTag" "SEQUENCE" "Lcom/example/sigillum/sigillum/codec/DerTag;" (.ref t_SEQUENCE)) (E_SEQUENCE : Exa Z h0 t_SEQUENCE "com/example/sigillum/sigillum/codec/DerTag") (F_SEQUENCE : Fld Z h0 t_SEQUENCE "com/example/sigillum/sigillum/codec/DerTag" "identifier" "I" (.int 48)) (S_NULL : Sta Z Z.heap "com/example/sigillum/sigillum/codec/DerTag" "NULL" "Lcom/example/sigillum/sigillum/codec/DerTag;" (.ref t_NULL)) (E_NULL : Exa Z h0 t_NULL "com/example/sigillum/sigillum/codec/DerTag") (F_NULL : Fld Z h0 t_NULL "com/example/sigillum/sigillum/codec/DerTag" "identifier" "I" (.int 5)) (S_OCTET_STRING : Sta Z Z.heap "com/example/sigillum/sigillum/codec/DerTag" "OCTET_STRING" "Lcom/example/sigillum/sigillum/codec/DerTag;" (.ref t_OCTET_STRING)) (E_OCTET_STRING : Exa Z h0 t_OCTET_STRING "com/example/sigillum/sigillum/codec/DerTag") (F_OCTET_STRING : Fld Z h0 t_OCTET_STRING "com/example/sigillum/sigillum/codec/DerTag" "identifier" "I" (.int 4)) :
    Go w l room_1 n0 Y h0 0 0 82 #[.val (.int p0), .val (.int p1), .val (.int p2), .val (.int p3), .val (.int (2 : Int32)), .val (.int (1 : Int32)), .val (.int (1 : Int32)), .val (.int (1 : Int32)), .unset, .unset, .unset, .unset, .unset, .unset, .unset, .unset, .unset] [] := by
  refine g_iload C at_82 (pc' := 84) rfl rfl ?_
  refine g_if_le C at_84 (by decide) (pc' := 100) (by decide) (pcN := 87) rfl (fun q => absurd q (by decide)) (fun _ => ?_)
  refine g_iload C at_87 (pc' := 89) rfl rfl ?_
  refine g_if_eq C at_89 (by decide) (pc' := 96) (by decide) (pcN := 92) rfl (fun q => absurd q (by decide)) (fun _ => ?_)
  refine g_iconst C (z := (3 : Int32)) at_92 (pc' := 93) rfl rfl ?_
  refine g_goto C at_93 (by decide) (pc' := 101) (by decide) ?_
  refine g_istore C at_101 (pc' := 103) rfl (Ls' := #[.val (.int p0), .val (.int p1), .val (.int p2), .val (.int p3), .val (.int (2 : Int32)), .val (.int (1 : Int32)), .val (.int (1 : Int32)), .val (.int (1 : Int32)), .val (.int (3 : Int32)), .unset, .unset, .unset, .unset, .unset, .unset, .unset, .unset]) rfl ?_
  refine g_iload C at_103 (pc' := 105) rfl rfl ?_
  refine g_iconst C (z := (1 : Int32)) at_105 (pc' := 106) rfl rfl ?_
  refine g_icmp_le C at_106 (by decide) (pc' := 122) (by decide) (pcN := 109) rfl (fun q => absurd q (by decide)) (fun _ => ?_)
  refine g_iload C at_109 (pc' := 111) rfl rfl ?_
  refine g_if_eq C at_111 (by decide) (pc' := 118) (by decide) (pcN := 114) rfl (fun q => absurd q (by decide)) (fun _ => ?_)
  refine g_iconst C (z := (3 : Int32)) at_114 (pc' := 115) rfl rfl ?_
  refine g_goto C at_115 (by decide) (pc' := 123) (by decide) ?_
  refine g_istore C at_123 (pc' := 125) rfl (Ls' := #[.val (.int p0), .val (.int p1), .val (.int p2), .val (.int p3), .val (.int (2 : Int32)), .val (.int (1 : Int32)), .val (.int (1 : Int32)), .val (.int (1 : Int32)), .val (.int (3 : Int32)), .val (.int (3 : Int32)), .unset, .unset, .unset, .unset, .unset, .unset, .unset]) rfl ?_
  refine g_iload C at_125 (pc' := 127) rfl rfl ?_
  refine g_iload C at_127 (pc' := 129) rfl rfl ?_
  refine g_iadd C at_129 (pc' := 130) rfl ?_
  show Go w l _ n0 _ h0 0 0 130 #[.val (.int p0), .val (.int p1), .val (.int p2), .val (.int p3), .val (.int (2 : Int32)), .val (.int (1 : Int32)), .val (.int (1 : Int32)), .val (.int (1 : Int32)), .val (.int (3 : Int32)), .val (.int (3 : Int32)), .unset, .unset, .unset, .unset, .unset, .unset, .unset] [(.int (6 : Int32))]
  refine g_istore C at_130 (pc' := 132) rfl (Ls' := #[.val (.int p0), .val (.int p1), .val (.int p2), .val (.int p3), .val (.int (2 : Int32)), .val (.int (1 : Int32)), .val (.int (1 : Int32)), .val (.int (1 : Int32)), .val (.int (3 : Int32)), .val (.int (3 : Int32)), .val (.int (6 : Int32)), .unset, .unset, .unset, .unset, .unset, .unset]) rfl ?_
  refine g_iconst C (z := (2 : Int32)) at_132 (pc' := 133) rfl rfl ?_
  refine g_iload C at_133 (pc' := 135) rfl rfl ?_
  refine g_iadd C at_135 (pc' := 136) rfl ?_
  show Go w l _ n0 _ h0 0 0 136 #[.val (.int p0), .val (.int p1), .val (.int p2), .val (.int p3), .val (.int (2 : Int32)), .val (.int (1 : Int32)), .val (.int (1 : Int32)), .val (.int (1 : Int32)), .val (.int (3 : Int32)), .val (.int (3 : Int32)), .val (.int (6 : Int32)), .unset, .unset, .unset, .unset, .unset, .unset] [(.int (8 : Int32))]
  refine g_iload C at_136 (pc' := 138) rfl rfl ?_
  refine g_if_eq C at_138 (by decide) (pc' := 145) (by decide) (pcN := 141) rfl (fun q => absurd q (by decide)) (fun _ => ?_)
  refine g_iconst C (z := (1 : Int32)) at_141 (pc' := 142) rfl rfl ?_
  refine g_goto C at_142 (by decide) (pc' := 146) (by decide) ?_
  refine g_iadd C at_146 (pc' := 147) rfl ?_
  show Go w l _ n0 _ h0 0 0 147 #[.val (.int p0), .val (.int p1), .val (.int p2), .val (.int p3), .val (.int (2 : Int32)), .val (.int (1 : Int32)), .val (.int (1 : Int32)), .val (.int (1 : Int32)), .val (.int (3 : Int32)), .val (.int (3 : Int32)), .val (.int (6 : Int32)), .unset, .unset, .unset, .unset, .unset, .unset] [(.int (9 : Int32))]
  refine g_istore C at_147 (pc' := 149) rfl (Ls' := #[.val (.int p0), .val (.int p1), .val (.int p2), .val (.int p3), .val (.int (2 : Int32)), .val (.int (1 : Int32)), .val (.int (1 : Int32)), .val (.int (1 : Int32)), .val (.int (3 : Int32)), .val (.int (3 : Int32)), .val (.int (6 : Int32)), .val (.int (9 : Int32)), .unset, .unset, .unset, .unset, .unset]) rfl ?_
  refine g_iload C at_149 (pc' := 151) rfl rfl ?_
  refine g_newarr C (ad := "[B") (cap := 9) (hw _ (List.mem_of_getElem? (i := 3) rfl)) at_151 (pc' := 153) rfl rfl (by decide) (by decide) (by decide) (k' := 1) (n' := 9) rfl rfl (by decide) (by decide) rfl ?_
  intro h232 b232 E232 fb232 gb232 A232
  have ne_t_SEQUENCE_b232 : t_SEQUENCE ≠ b232 := Nat.ne_of_lt (Nat.lt_of_lt_of_le E_SEQUENCE.lt fb232)
  have ne_t_NULL_b232 : t_NULL ≠ b232 := Nat.ne_of_lt (Nat.lt_of_lt_of_le E_NULL.lt fb232)
  have ne_t_OCTET_STRING_b232 : t_OCTET_STRING ≠ b232 := Nat.ne_of_lt (Nat.lt_of_lt_of_le E_OCTET_STRING.lt fb232)
  have X := X.ext E232
  have E_SEQUENCE := E_SEQUENCE.ext E232
  have F_SEQUENCE := F_SEQUENCE.ext E232
  have E_NULL := E_NULL.ext E232
  have F_NULL := F_NULL.ext E232
  have E_OCTET_STRING := E_OCTET_STRING.ext E232
  have F_OCTET_STRING := F_OCTET_STRING.ext E232
  have A232 : Arf Z h232 b232 "[B" .byte (9 : Int32) (fun _ => (.int 0)) := A232
  refine g_astore C at_153 (pc' := 155) rfl rfl (Ls' := #[.val (.int p0), .val (.int p1), .val (.int p2), .val (.int p3), .val (.int (2 : Int32)), .val (.int (1 : Int32)), .val (.int (1 : Int32)), .val (.int (1 : Int32)), .val (.int (3 : Int32)), .val (.int (3 : Int32)), .val (.int (6 : Int32)), .val (.int (9 : Int32)), .val (.ref b232), .unset, .unset, .unset, .unset]) rfl ?_
  refine g_aload C at_155 (pc' := 157) rfl rfl rfl ?_
  refine g_iconst C (z := (0 : Int32)) at_157 (pc' := 158) rfl rfl ?_
  refine g_bipush C (z := (48 : Int32)) at_158 (pc' := 160) rfl rfl ?_
  refine g_bastore C A232 (by decide) (by decide) at_160 (pc' := 161) rfl gb232 (fun h233 W234 A232' => ?_)
  have X := X.wr W234 gb232
  have E_SEQUENCE := E_SEQUENCE.wr W234
  have F_SEQUENCE := F_SEQUENCE.other W234 (Or.inl ne_t_SEQUENCE_b232)
  have E_NULL := E_NULL.wr W234
  have F_NULL := F_NULL.other W234 (Or.inl ne_t_NULL_b232)
  have E_OCTET_STRING := E_OCTET_STRING.wr W234
  have F_OCTET_STRING := F_OCTET_STRING.other W234 (Or.inl ne_t_OCTET_STRING_b232)
  have A232 : Arf Z h233 b232 "[B" .byte (9 : Int32) (upd (fun _ => (.int 0)) 0 (.int (48 : Int32))) := A232'
  refine g_aload C at_161 (pc' := 163) rfl rfl rfl ?_
  refine g_iconst C (z := (1 : Int32)) at_163 (pc' := 164) rfl rfl ?_
  refine g_iload C at_164 (pc' := 166) rfl rfl ?_
  refine g_i2b C at_166 (pc' := 167) rfl ?_
  show Go w l _ n0 _ h233 1 9 167 #[.val (.int p0), .val (.int p1), .val (.int p2), .val (.int p3), .val (.int (2 : Int32)), .val (.int (1 : Int32)), .val (.int (1 : Int32)), .val (.int (1 : Int32)), .val (.int (3 : Int32)), .val (.int (3 : Int32)), .val (.int (6 : Int32)), .val (.int (9 : Int32)), .val (.ref b232), .unset, .unset, .unset, .unset] [(.int (6 : Int32)), (.int (1 : Int32)), (.ref b232)]
  refine g_bastore C A232 (by decide) (by decide) at_167 (pc' := 168) rfl gb232 (fun h235 W236 A232' => ?_)
  have X := X.wr W236 gb232
  have E_SEQUENCE := E_SEQUENCE.wr W236
  have F_SEQUENCE := F_SEQUENCE.other W236 (Or.inl ne_t_SEQUENCE_b232)
  have E_NULL := E_NULL.wr W236
  have F_NULL := F_NULL.other W236 (Or.inl ne_t_NULL_b232)
  have E_OCTET_STRING := E_OCTET_STRING.wr W236
  have F_OCTET_STRING := F_OCTET_STRING.other W236 (Or.inl ne_t_OCTET_STRING_b232)
  have A232 : Arf Z h235 b232 "[B" .byte (9 : Int32) (upd (upd (fun _ => (.int 0)) 0 (.int (48 : Int32))) 1 (.int (6 : Int32))) := A232'
  refine g_iconst C (z := (2 : Int32)) at_168 (pc' := 169) rfl rfl ?_
  refine g_istore C at_169 (pc' := 171) rfl (Ls' := #[.val (.int p0), .val (.int p1), .val (.int p2), .val (.int p3), .val (.int (2 : Int32)), .val (.int (1 : Int32)), .val (.int (1 : Int32)), .val (.int (1 : Int32)), .val (.int (3 : Int32)), .val (.int (3 : Int32)), .val (.int (6 : Int32)), .val (.int (9 : Int32)), .val (.ref b232), .val (.int (2 : Int32)), .unset, .unset, .unset]) rfl ?_
  refine g_iload C at_171 (pc' := 173) rfl rfl ?_
  refine g_if_le C at_173 (by decide) (pc' := 189) (by decide) (pcN := 176) rfl (fun q => absurd q (by decide)) (fun _ => ?_)
  refine g_aload C at_176 (pc' := 178) rfl rfl rfl ?_
  refine g_iload C at_178 (pc' := 180) rfl rfl ?_
  refine g_iload C at_180 (pc' := 182) rfl rfl ?_
  refine g_iloadN C at_182 (pc' := 183) rfl rfl ?_
  refine g_i2b C at_183 (pc' := 184) rfl ?_
  refine g_static (rm := R_m_put1) C (y := (⟨"com/example/sigillum/sigillum/codec/DerReaderHasMorePinLaw", "put", "([BIZB)I"⟩ : MethodName)) (hw _ (List.mem_of_getElem? (i := 54) rfl)) (hw _ (List.mem_of_getElem? (i := 55) rfl)) (hw _ (List.mem_of_getElem? (i := 56) rfl)) (hw _ (List.mem_of_getElem? (i := 57) rfl)) (by decide) at_184 (pc' := 187) rfl (argsL := [(.ref b232), (.int (2 : Int32)), (.int (1 : Int32)), (.int (p1.toInt8.toInt32))]) (rest := []) (lenOf pd_12 rfl) rfl (W := 0) (Nat.le_of_eq rfl) rfl (fun hn9 => Met.back (rm := R_m_put1) (m_put1 hw b232 (2 : Int32) (p1.toInt8.toInt32) (9 : Int32) (upd (upd (fun _ => (.int 0)) 0 (.int (48 : Int32))) 1 (.int (6 : Int32))) A232 gb232 (by decide) (by decide) (by decide) (by decide) (by decide) (by decide)) hn9 C.hZ (hw _ (List.mem_of_getElem? (i := 57) rfl)) (hw _ (List.mem_of_getElem? (i := 56) rfl)) (by decide) (by decide)) (k' := 1) (n' := 9) rfl rfl (by decide) (by decide) ?_
  rintro _ h237 ⟨rfl, Kp, Ap⟩
  have X := X.keep Kp (allS gb232 all0)
  have E_SEQUENCE := E_SEQUENCE.keep Kp
  have F_SEQUENCE := F_SEQUENCE.keep Kp (ninS ne_t_SEQUENCE_b232 nin0)
  have E_NULL := E_NULL.keep Kp
  have F_NULL := F_NULL.keep Kp (ninS ne_t_NULL_b232 nin0)
  have E_OCTET_STRING := E_OCTET_STRING.keep Kp
  have F_OCTET_STRING := F_OCTET_STRING.keep Kp (ninS ne_t_OCTET_STRING_b232 nin0)
  have A232 : Arf Z h237 b232 "[B" .byte (9 : Int32) (upd (upd (upd (upd (upd (fun _ => (.int 0)) 0 (.int (48 : Int32))) 1 (.int (6 : Int32))) 2 (.int (4 : Int32))) 3 (.int (1 : Int32))) 4 (.int (nar .byte (p1.toInt8.toInt32)))) := Ap
  show Go w l _ n0 _ h237 1 9 187 #[.val (.int p0), .val (.int p1), .val (.int p2), .val (.int p3), .val (.int (2 : Int32)), .val (.int (1 : Int32)), .val (.int (1 : Int32)), .val (.int (1 : Int32)), .val (.int (3 : Int32)), .val (.int (3 : Int32)), .val (.int (6 : Int32)), .val (.int (9 : Int32)), .val (.ref b232), .val (.int (2 : Int32)), .unset, .unset, .unset] [(.int (5 : Int32))]
  refine g_istore C at_187 (pc' := 189) rfl (Ls' := #[.val (.int p0), .val (.int p1), .val (.int p2), .val (.int p3), .val (.int (2 : Int32)), .val (.int (1 : Int32)), .val (.int (1 : Int32)), .val (.int (1 : Int32)), .val (.int (3 : Int32)), .val (.int (3 : Int32)), .val (.int (6 : Int32)), .val (.int (9 : Int32)), .val (.ref b232), .val (.int (5 : Int32)), .unset, .unset, .unset]) rfl ?_
  refine g_iload C at_189 (pc' := 191) rfl rfl ?_
  refine g_iconst C (z := (1 : Int32)) at_191 (pc' := 192) rfl rfl ?_
  refine g_icmp_le C at_192 (by decide) (pc' := 208) (by decide) (pcN := 195) rfl (fun q => absurd q (by decide)) (fun _ => ?_)
  refine g_aload C at_195 (pc' := 197) rfl rfl rfl ?_
  refine g_iload C at_197 (pc' := 199) rfl rfl ?_
  refine g_iload C at_199 (pc' := 201) rfl rfl ?_
  refine g_iloadN C at_201 (pc' := 202) rfl rfl ?_
  refine g_i2b C at_202 (pc' := 203) rfl ?_
  refine g_static (rm := R_m_put1) C (y := (⟨"com/example/sigillum/sigillum/codec/DerReaderHasMorePinLaw", "put", "([BIZB)I"⟩ : MethodName)) (hw _ (List.mem_of_getElem? (i := 54) rfl)) (hw _ (List.mem_of_getElem? (i := 55) rfl)) (hw _ (List.mem_of_getElem? (i := 56) rfl)) (hw _ (List.mem_of_getElem? (i := 57) rfl)) (by decide) at_203 (pc' := 206) rfl (argsL := [(.ref b232), (.int (5 : Int32)), (.int (1 : Int32)), (.int (p2.toInt8.toInt32))]) (rest := []) (lenOf pd_12 rfl) rfl (W := 0) (Nat.le_of_eq rfl) rfl (fun hn9 => Met.back (rm := R_m_put1) (m_put1 hw b232 (5 : Int32) (p2.toInt8.toInt32) (9 : Int32) (upd (upd (upd (upd (upd (fun _ => (.int 0)) 0 (.int (48 : Int32))) 1 (.int (6 : Int32))) 2 (.int (4 : Int32))) 3 (.int (1 : Int32))) 4 (.int (nar .byte (p1.toInt8.toInt32)))) A232 gb232 (by decide) (by decide) (by decide) (by decide) (by decide) (by decide)) hn9 C.hZ (hw _ (List.mem_of_getElem? (i := 57) rfl)) (hw _ (List.mem_of_getElem? (i := 56) rfl)) (by decide) (by decide)) (k' := 1) (n' := 9) rfl rfl (by decide) (by decide) ?_
  rintro _ h238 ⟨rfl, Kp, Ap⟩
  have X := X.keep Kp (allS gb232 all0)
  have E_SEQUENCE := E_SEQUENCE.keep Kp
  have F_SEQUENCE := F_SEQUENCE.keep Kp (ninS ne_t_SEQUENCE_b232 nin0)
  have E_NULL := E_NULL.keep Kp
  have F_NULL := F_NULL.keep Kp (ninS ne_t_NULL_b232 nin0)
  have E_OCTET_STRING := E_OCTET_STRING.keep Kp
  have F_OCTET_STRING := F_OCTET_STRING.keep Kp (ninS ne_t_OCTET_STRING_b232 nin0)
  have A232 : Arf Z h238 b232 "[B" .byte (9 : Int32) (upd (upd (upd (upd (upd (upd (upd (upd (fun _ => (.int 0)) 0 (.int (48 : Int32))) 1 (.int (6 : Int32))) 2 (.int (4 : Int32))) 3 (.int (1 : Int32))) 4 (.int (nar .byte (p1.toInt8.toInt32)))) 5 (.int (4 : Int32))) 6 (.int (1 : Int32))) 7 (.int (nar .byte (p2.toInt8.toInt32)))) := Ap
  show Go w l _ n0 _ h238 1 9 206 #[.val (.int p0), .val (.int p1), .val (.int p2), .val (.int p3), .val (.int (2 : Int32)), .val (.int (1 : Int32)), .val (.int (1 : Int32)), .val (.int (1 : Int32)), .val (.int (3 : Int32)), .val (.int (3 : Int32)), .val (.int (6 : Int32)), .val (.int (9 : Int32)), .val (.ref b232), .val (.int (5 : Int32)), .unset, .unset, .unset] [(.int (8 : Int32))]
  refine g_istore C at_206 (pc' := 208) rfl (Ls' := #[.val (.int p0), .val (.int p1), .val (.int p2), .val (.int p3), .val (.int (2 : Int32)), .val (.int (1 : Int32)), .val (.int (1 : Int32)), .val (.int (1 : Int32)), .val (.int (3 : Int32)), .val (.int (3 : Int32)), .val (.int (6 : Int32)), .val (.int (9 : Int32)), .val (.ref b232), .val (.int (8 : Int32)), .unset, .unset, .unset]) rfl ?_
  refine g_iload C at_208 (pc' := 210) rfl rfl ?_
  refine g_if_eq C at_210 (by decide) (pc' := 220) (by decide) (pcN := 213) rfl (fun q => absurd q (by decide)) (fun _ => ?_)
  refine g_aload C at_213 (pc' := 215) rfl rfl rfl ?_
  refine g_iload C at_215 (pc' := 217) rfl rfl ?_
  refine g_iloadN C at_217 (pc' := 218) rfl rfl ?_
  refine g_i2b C at_218 (pc' := 219) rfl ?_
  refine g_bastore C A232 (by decide) (by decide) at_219 (pc' := 220) rfl gb232 (fun h239 W240 A232' => ?_)
  have X := X.wr W240 gb232
  have E_SEQUENCE := E_SEQUENCE.wr W240
  have F_SEQUENCE := F_SEQUENCE.other W240 (Or.inl ne_t_SEQUENCE_b232)
  have E_NULL := E_NULL.wr W240
  have F_NULL := F_NULL.other W240 (Or.inl ne_t_NULL_b232)
  have E_OCTET_STRING := E_OCTET_STRING.wr W240
  have F_OCTET_STRING := F_OCTET_STRING.other W240 (Or.inl ne_t_OCTET_STRING_b232)
  have A232 : Arf Z h239 b232 "[B" .byte (9 : Int32) (upd (upd (upd (upd (upd (upd (upd (upd (upd (fun _ => (.int 0)) 0 (.int (48 : Int32))) 1 (.int (6 : Int32))) 2 (.int (4 : Int32))) 3 (.int (1 : Int32))) 4 (.int (nar .byte (p1.toInt8.toInt32)))) 5 (.int (4 : Int32))) 6 (.int (1 : Int32))) 7 (.int (nar .byte (p2.toInt8.toInt32)))) 8 (.int (nar .byte (p3.toInt8.toInt32)))) := A232'
  refine g_new C (hw _ (List.mem_of_getElem? (i := 0) rfl)) (hw _ (List.mem_of_getElem? (i := 1) rfl)) (hw _ (List.mem_of_getElem? (i := 2) rfl)) at_220 (pc' := 223) rfl (k' := 2) (n' := 12) rfl rfl (by decide) (by decide) ?_
  intro h241 b241 E241 fb241 gb241 A241 D241
  have ne_t_SEQUENCE_b241 : t_SEQUENCE ≠ b241 := Nat.ne_of_lt (Nat.lt_of_lt_of_le E_SEQUENCE.lt fb241)
  have ne_t_NULL_b241 : t_NULL ≠ b241 := Nat.ne_of_lt (Nat.lt_of_lt_of_le E_NULL.lt fb241)
  have ne_t_OCTET_STRING_b241 : t_OCTET_STRING ≠ b241 := Nat.ne_of_lt (Nat.lt_of_lt_of_le E_OCTET_STRING.lt fb241)
  have ne_b232_b241 : b232 ≠ b241 := Nat.ne_of_lt (Nat.lt_of_lt_of_le A232.lt fb241)
  have X := X.ext E241
  have E_SEQUENCE := E_SEQUENCE.ext E241
  have F_SEQUENCE := F_SEQUENCE.ext E241
  have E_NULL := E_NULL.ext E241
  have F_NULL := F_NULL.ext E241
  have E_OCTET_STRING := E_OCTET_STRING.ext E241
  have F_OCTET_STRING := F_OCTET_STRING.ext E241
  have A232 := A232.ext E241
  have F241_der : Fld Z h241 b241 "com/example/sigillum/sigillum/codec/DerReader" "der" "[B" .null := D241 (Or.inr (hw _ (List.mem_of_getElem? (i := 23) rfl))) (ty := (.array .byte)) (by decide)
  have F241_position : Fld Z h241 b241 "com/example/sigillum/sigillum/codec/DerReader" "position" "I" (.int (0 : Int32)) := D241 (Or.inl (hw _ (List.mem_of_getElem? (i := 25) rfl))) (ty := .int) (by decide)
  have F241_end : Fld Z h241 b241 "com/example/sigillum/sigillum/codec/DerReader" "end" "I" (.int (0 : Int32)) := D241 (Or.inr (hw _ (List.mem_of_getElem? (i := 27) rfl))) (ty := .int) (by decide)
  refine g_dup C at_223 (pc' := 224) rfl rfl ?_
  refine g_aload C at_224 (pc' := 226) rfl rfl rfl ?_
  refine g_special (rm := R_m_init1) (a := b241) C (y := (⟨"com/example/sigillum/sigillum/codec/DerReader", "<init>", "([B)V"⟩ : MethodName)) rfl (hw _ (List.mem_of_getElem? (i := 4) rfl)) (hw _ (List.mem_of_getElem? (i := 5) rfl)) (hw _ (List.mem_of_getElem? (i := 6) rfl)) (by decide) at_226 (pc' := 229) rfl (argsL := [(.ref b232)]) (rest := [(.ref b241)]) (lenOf pd_10 rfl) rfl (W := 1) (Nat.le_of_eq rfl) rfl (fun hn9 => Met.back (rm := R_m_init1) (m_init1 hw b241 b232 (9 : Int32) (upd (upd (upd (upd (upd (upd (upd (upd (upd (fun _ => (.int 0)) 0 (.int (48 : Int32))) 1 (.int (6 : Int32))) 2 (.int (4 : Int32))) 3 (.int (1 : Int32))) 4 (.int (nar .byte (p1.toInt8.toInt32)))) 5 (.int (4 : Int32))) 6 (.int (1 : Int32))) 7 (.int (nar .byte (p2.toInt8.toInt32)))) 8 (.int (nar .byte (p3.toInt8.toInt32)))) ⟨A241, F241_der, F241_position, F241_end⟩ A232 (by decide) gb241) hn9 C.hZ (hw _ (List.mem_of_getElem? (i := 6) rfl)) (hw _ (List.mem_of_getElem? (i := 2) rfl)) (by decide) (by decide)) (k' := 3) (n' := 21) rfl rfl (by decide) (by decide) ?_
  rintro _ h242 ⟨rfl, Ki, t_b241, ft_b241, gt_b241, ⟨E_b241, F1_b241, F2_b241, F3_b241⟩, At_b241⟩
  have ne_t_SEQUENCE_t_b241 : t_SEQUENCE ≠ t_b241 := Nat.ne_of_lt (Nat.lt_of_lt_of_le E_SEQUENCE.lt ft_b241)
  have ne_t_NULL_t_b241 : t_NULL ≠ t_b241 := Nat.ne_of_lt (Nat.lt_of_lt_of_le E_NULL.lt ft_b241)
  have ne_t_OCTET_STRING_t_b241 : t_OCTET_STRING ≠ t_b241 := Nat.ne_of_lt (Nat.lt_of_lt_of_le E_OCTET_STRING.lt ft_b241)
  have ne_b232_t_b241 : b232 ≠ t_b241 := Nat.ne_of_lt (Nat.lt_of_lt_of_le A232.lt ft_b241)
  have ne_b241_t_b241 : b241 ≠ t_b241 := Nat.ne_of_lt (Nat.lt_of_lt_of_le A241.lt ft_b241)
  have X := X.keep Ki (allS gb241 all0)
  have E_SEQUENCE := E_SEQUENCE.keep Ki
  have F_SEQUENCE := F_SEQUENCE.keep Ki (ninS ne_t_SEQUENCE_b241 nin0)
  have E_NULL := E_NULL.keep Ki
  have F_NULL := F_NULL.keep Ki (ninS ne_t_NULL_b241 nin0)
  have E_OCTET_STRING := E_OCTET_STRING.keep Ki
  have F_OCTET_STRING := F_OCTET_STRING.keep Ki (ninS ne_t_OCTET_STRING_b241 nin0)
  have A232 := A232.keep Ki (ninS ne_b232_b241 nin0)
  have A241 := A241.keep Ki
  show Go w l _ n0 _ h242 3 21 229 #[.val (.int p0), .val (.int p1), .val (.int p2), .val (.int p3), .val (.int (2 : Int32)), .val (.int (1 : Int32)), .val (.int (1 : Int32)), .val (.int (1 : Int32)), .val (.int (3 : Int32)), .val (.int (3 : Int32)), .val (.int (6 : Int32)), .val (.int (9 : Int32)), .val (.ref b232), .val (.int (8 : Int32)), .unset, .unset, .unset] [(.ref b241)]
  refine g_astore C at_229 (pc' := 231) rfl rfl (Ls' := #[.val (.int p0), .val (.int p1), .val (.int p2), .val (.int p3), .val (.int (2 : Int32)), .val (.int (1 : Int32)), .val (.int (1 : Int32)), .val (.int (1 : Int32)), .val (.int (3 : Int32)), .val (.int (3 : Int32)), .val (.int (6 : Int32)), .val (.int (9 : Int32)), .val (.ref b232), .val (.int (8 : Int32)), .val (.ref b241), .unset, .unset]) rfl ?_
  refine g_aload C at_231 (pc' := 233) rfl rfl rfl ?_
  refine g_virtual (rm := R_m_hasMore) (a := b241) C (y := (⟨"com/example/sigillum/sigillum/codec/DerReader", "hasMore", "()Z"⟩ : MethodName)) (y' := (⟨"com/example/sigillum/sigillum/codec/DerReader", "hasMore", "()Z"⟩ : MethodName)) (hw _ (List.mem_of_getElem? (i := 28) rfl)) (hw _ (List.mem_of_getElem? (i := 29) rfl)) (g_nf C (hw _ (List.mem_of_getElem? (i := 31) rfl))) (hw _ (List.mem_of_getElem? (i := 31) rfl)) (hw _ (List.mem_of_getElem? (i := 30) rfl)) (by decide) E_b241 at_233 (pc' := 236) rfl (argsL := []) (rest := []) (lenOf pd_1 rfl) rfl (W := 0) (Nat.le_of_eq rfl) rfl (fun hn9 => Met.back (rm := R_m_hasMore) (m_hasMore hw b241 (0 : Int32) (9 : Int32) F2_b241 F3_b241) hn9 C.hZ (hw _ (List.mem_of_getElem? (i := 32) rfl)) (hw _ (List.mem_of_getElem? (i := 2) rfl)) (by decide) (by decide)) (k' := 3) (n' := 21) rfl rfl (by decide) (by decide) ?_
  rintro _ _ ⟨rfl, rfl⟩
  show Go w l _ n0 _ h242 3 21 236 #[.val (.int p0), .val (.int p1), .val (.int p2), .val (.int p3), .val (.int (2 : Int32)), .val (.int (1 : Int32)), .val (.int (1 : Int32)), .val (.int (1 : Int32)), .val (.int (3 : Int32)), .val (.int (3 : Int32)), .val (.int (6 : Int32)), .val (.int (9 : Int32)), .val (.ref b232), .val (.int (8 : Int32)), .val (.ref b241), .unset, .unset] [(.int (1 : Int32))]
  refine g_istore C at_236 (pc' := 238) rfl (Ls' := #[.val (.int p0), .val (.int p1), .val (.int p2), .val (.int p3), .val (.int (2 : Int32)), .val (.int (1 : Int32)), .val (.int (1 : Int32)), .val (.int (1 : Int32)), .val (.int (3 : Int32)), .val (.int (3 : Int32)), .val (.int (6 : Int32)), .val (.int (9 : Int32)), .val (.ref b232), .val (.int (8 : Int32)), .val (.ref b241), .val (.int (1 : Int32)), .unset]) rfl ?_
  refine g_aload C at_238 (pc' := 240) rfl rfl rfl ?_
  refine g_virtual (rm := R_m_seq) (a := b241) C (y := (⟨"com/example/sigillum/sigillum/codec/DerReader", "sequence", "()Lcom/example/sigillum/sigillum/codec/DerReader;"⟩ : MethodName)) (y' := (⟨"com/example/sigillum/sigillum/codec/DerReader", "sequence", "()Lcom/example/sigillum/sigillum/codec/DerReader;"⟩ : MethodName)) (hw _ (List.mem_of_getElem? (i := 33) rfl)) (hw _ (List.mem_of_getElem? (i := 34) rfl)) (g_nf C (hw _ (List.mem_of_getElem? (i := 36) rfl))) (hw _ (List.mem_of_getElem? (i := 36) rfl)) (hw _ (List.mem_of_getElem? (i := 35) rfl)) (by decide) E_b241 at_240 (pc' := 243) rfl (argsL := []) (rest := []) (lenOf pd_11 rfl) rfl (W := 0) (Nat.le_of_eq rfl) rfl (fun hn9 => Met.back (rm := R_m_seq) (m_seq hw b241 t_b241 t_SEQUENCE (0 : Int32) (9 : Int32) (9 : Int32) (48 : Int32) (6 : Int32) (6 : Int32) (48 : Int32) (2 : Int32) (upd (upd (upd (upd (upd (upd (upd (upd (upd (fun _ => (.int 0)) 0 (.int (48 : Int32))) 1 (.int (6 : Int32))) 2 (.int (4 : Int32))) 3 (.int (1 : Int32))) 4 (.int (nar .byte (p1.toInt8.toInt32)))) 5 (.int (4 : Int32))) 6 (.int (1 : Int32))) 7 (.int (nar .byte (p2.toInt8.toInt32)))) 8 (.int (nar .byte (p3.toInt8.toInt32)))) (8 : Int32) ⟨E_b241, F1_b241, F2_b241, F3_b241⟩ At_b241 E_SEQUENCE F_SEQUENCE gb241 (Ne.symm ne_b241_t_b241) (by decide) (by decide) (by decide) rfl (by decide) (by decide) (by decide) (by decide) rfl (by decide) (by decide) (by decide) (by decide) (by decide) (S_SEQUENCE.ext X.2)) hn9 C.hZ (hw _ (List.mem_of_getElem? (i := 37) rfl)) (hw _ (List.mem_of_getElem? (i := 2) rfl)) (by decide) (by decide)) (k' := 4) (n' := 24) rfl rfl (by decide) (by decide) ?_
  rintro _ h243 ⟨sq, rfl, fsq, gsq, Ks, ⟨E_b241, F1_b241, F2_b241, F3_b241⟩, ⟨E_sq, F1_sq, F2_sq, F3_sq⟩⟩
  have ne_t_SEQUENCE_sq : t_SEQUENCE ≠ sq := Nat.ne_of_lt (Nat.lt_of_lt_of_le E_SEQUENCE.lt fsq)
  have ne_t_NULL_sq : t_NULL ≠ sq := Nat.ne_of_lt (Nat.lt_of_lt_of_le E_NULL.lt fsq)
  have ne_t_OCTET_STRING_sq : t_OCTET_STRING ≠ sq := Nat.ne_of_lt (Nat.lt_of_lt_of_le E_OCTET_STRING.lt fsq)
  have ne_b232_sq : b232 ≠ sq := Nat.ne_of_lt (Nat.lt_of_lt_of_le A232.lt fsq)
  have ne_t_b241_sq : t_b241 ≠ sq := Nat.ne_of_lt (Nat.lt_of_lt_of_le At_b241.lt fsq)
  have X := X.keep Ks (allS gb241 all0)
  have E_SEQUENCE := E_SEQUENCE.keep Ks
  have F_SEQUENCE := F_SEQUENCE.keep Ks (ninS ne_t_SEQUENCE_b241 nin0)
  have E_NULL := E_NULL.keep Ks
  have F_NULL := F_NULL.keep Ks (ninS ne_t_NULL_b241 nin0)
  have E_OCTET_STRING := E_OCTET_STRING.keep Ks
  have F_OCTET_STRING := F_OCTET_STRING.keep Ks (ninS ne_t_OCTET_STRING_b241 nin0)
  have A232 := A232.keep Ks (ninS ne_b232_b241 nin0)
  have At_b241 := At_b241.keep Ks (ninS (Ne.symm ne_b241_t_b241) nin0)
  show Go w l _ n0 _ h243 4 24 243 #[.val (.int p0), .val (.int p1), .val (.int p2), .val (.int p3), .val (.int (2 : Int32)), .val (.int (1 : Int32)), .val (.int (1 : Int32)), .val (.int (1 : Int32)), .val (.int (3 : Int32)), .val (.int (3 : Int32)), .val (.int (6 : Int32)), .val (.int (9 : Int32)), .val (.ref b232), .val (.int (8 : Int32)), .val (.ref b241), .val (.int (1 : Int32)), .unset] [(.ref sq)]
  refine g_astore C at_243 (pc' := 245) rfl rfl (Ls' := #[.val (.int p0), .val (.int p1), .val (.int p2), .val (.int p3), .val (.int (2 : Int32)), .val (.int (1 : Int32)), .val (.int (1 : Int32)), .val (.int (1 : Int32)), .val (.int (3 : Int32)), .val (.int (3 : Int32)), .val (.int (6 : Int32)), .val (.int (9 : Int32)), .val (.ref b232), .val (.int (8 : Int32)), .val (.ref b241), .val (.int (1 : Int32)), .val (.ref sq)]) rfl ?_
  refine g_iload C at_245 (pc' := 247) rfl rfl ?_
  refine g_if_eq C at_247 (by decide) (pc' := 264) (by decide) (pcN := 250) rfl (fun q => absurd q (by decide)) (fun _ => ?_)
  refine g_aload C at_250 (pc' := 252) rfl rfl rfl ?_
  refine g_virtual (rm := R_m_hasMore) (a := b241) C (y := (⟨"com/example/sigillum/sigillum/codec/DerReader", "hasMore", "()Z"⟩ : MethodName)) (y' := (⟨"com/example/sigillum/sigillum/codec/DerReader", "hasMore", "()Z"⟩ : MethodName)) (hw _ (List.mem_of_getElem? (i := 28) rfl)) (hw _ (List.mem_of_getElem? (i := 29) rfl)) (g_nf C (hw _ (List.mem_of_getElem? (i := 31) rfl))) (hw _ (List.mem_of_getElem? (i := 31) rfl)) (hw _ (List.mem_of_getElem? (i := 30) rfl)) (by decide) E_b241 at_252 (pc' := 255) rfl (argsL := []) (rest := []) (lenOf pd_1 rfl) rfl (W := 0) (Nat.le_of_eq rfl) rfl (fun hn9 => Met.back (rm := R_m_hasMore) (m_hasMore hw b241 (8 : Int32) (9 : Int32) F2_b241 F3_b241) hn9 C.hZ (hw _ (List.mem_of_getElem? (i := 32) rfl)) (hw _ (List.mem_of_getElem? (i := 2) rfl)) (by decide) (by decide)) (k' := 4) (n' := 24) rfl rfl (by decide) (by decide) ?_
  rintro _ _ ⟨rfl, rfl⟩
  show Go w l _ n0 _ h243 4 24 255 #[.val (.int p0), .val (.int p1), .val (.int p2), .val (.int p3), .val (.int (2 : Int32)), .val (.int (1 : Int32)), .val (.int (1 : Int32)), .val (.int (1 : Int32)), .val (.int (3 : Int32)), .val (.int (3 : Int32)), .val (.int (6 : Int32)), .val (.int (9 : Int32)), .val (.ref b232), .val (.int (8 : Int32)), .val (.ref b241), .val (.int (1 : Int32)), .val (.ref sq)] [(.int (1 : Int32))]
  refine g_iload C at_255 (pc' := 257) rfl rfl ?_
  refine g_icmp_ne C at_257 (by decide) (pc' := 264) (by decide) (pcN := 260) rfl (fun q => absurd rfl q) (fun _ => ?_)
  refine g_iconst C (z := (1 : Int32)) at_260 (pc' := 261) rfl rfl ?_
  refine g_goto C at_261 (by decide) (pc' := 265) (by decide) ?_
  refine g_istore C at_265 (pc' := 267) rfl (Ls' := #[.val (.int p0), .val (.int p1), .val (.int p2), .val (.int p3), .val (.int (2 : Int32)), .val (.int (1 : Int32)), .val (.int (1 : Int32)), .val (.int (1 : Int32)), .val (.int (3 : Int32)), .val (.int (3 : Int32)), .val (.int (6 : Int32)), .val (.int (9 : Int32)), .val (.ref b232), .val (.int (8 : Int32)), .val (.ref b241), .val (.int (1 : Int32)), .val (.ref sq)]) rfl ?_
  refine g_iload C at_267 (pc' := 269) rfl rfl ?_
  refine g_if_eq C at_269 (by decide) (pc' := 294) (by decide) (pcN := 272) rfl (fun q => absurd q (by decide)) (fun _ => ?_)
  refine g_aload C at_272 (pc' := 274) rfl rfl rfl ?_
  refine g_virtual (rm := R_m_hasMore) (a := sq) C (y := (⟨"com/example/sigillum/sigillum/codec/DerReader", "hasMore", "()Z"⟩ : MethodName)) (y' := (⟨"com/example/sigillum/sigillum/codec/DerReader", "hasMore", "()Z"⟩ : MethodName)) (hw _ (List.mem_of_getElem? (i := 28) rfl)) (hw _ (List.mem_of_getElem? (i := 29) rfl)) (g_nf C (hw _ (List.mem_of_getElem? (i := 31) rfl))) (hw _ (List.mem_of_getElem? (i := 31) rfl)) (hw _ (List.mem_of_getElem? (i := 30) rfl)) (by decide) E_sq at_274 (pc' := 277) rfl (argsL := []) (rest := []) (lenOf pd_1 rfl) rfl (W := 0) (Nat.le_of_eq rfl) rfl (fun hn9 => Met.back (rm := R_m_hasMore) (m_hasMore hw sq (2 : Int32) (8 : Int32) F2_sq F3_sq) hn9 C.hZ (hw _ (List.mem_of_getElem? (i := 32) rfl)) (hw _ (List.mem_of_getElem? (i := 2) rfl)) (by decide) (by decide)) (k' := 4) (n' := 24) rfl rfl (by decide) (by decide) ?_
  rintro _ _ ⟨rfl, rfl⟩
  show Go w l _ n0 _ h243 4 24 277 #[.val (.int p0), .val (.int p1), .val (.int p2), .val (.int p3), .val (.int (2 : Int32)), .val (.int (1 : Int32)), .val (.int (1 : Int32)), .val (.int (1 : Int32)), .val (.int (3 : Int32)), .val (.int (3 : Int32)), .val (.int (6 : Int32)), .val (.int (9 : Int32)), .val (.ref b232), .val (.int (8 : Int32)), .val (.ref b241), .val (.int (1 : Int32)), .val (.ref sq)] [(.int (1 : Int32))]
  refine g_iload C at_277 (pc' := 279) rfl rfl ?_
  refine g_if_le C at_279 (by decide) (pc' := 286) (by decide) (pcN := 282) rfl (fun q => absurd q (by decide)) (fun _ => ?_)
  refine g_iconst C (z := (1 : Int32)) at_282 (pc' := 283) rfl rfl ?_
  refine g_goto C at_283 (by decide) (pc' := 287) (by decide) ?_
  refine g_icmp_ne C at_287 (by decide) (pc' := 294) (by decide) (pcN := 290) rfl (fun q => absurd rfl q) (fun _ => ?_)
  refine g_iconst C (z := (1 : Int32)) at_290 (pc' := 291) rfl rfl ?_
  refine g_goto C at_291 (by decide) (pc' := 295) (by decide) ?_
  refine g_istore C at_295 (pc' := 297) rfl (Ls' := #[.val (.int p0), .val (.int p1), .val (.int p2), .val (.int p3), .val (.int (2 : Int32)), .val (.int (1 : Int32)), .val (.int (1 : Int32)), .val (.int (1 : Int32)), .val (.int (3 : Int32)), .val (.int (3 : Int32)), .val (.int (6 : Int32)), .val (.int (9 : Int32)), .val (.ref b232), .val (.int (8 : Int32)), .val (.ref b241), .val (.int (1 : Int32)), .val (.ref sq)]) rfl ?_
  refine g_iload C at_297 (pc' := 299) rfl rfl ?_
  refine g_if_le C at_299 (by decide) (pc' := 340) (by decide) (pcN := 302) rfl (fun q => absurd q (by decide)) (fun _ => ?_)
  refine g_aload C at_302 (pc' := 304) rfl rfl rfl ?_
  refine g_iload C at_304 (pc' := 306) rfl rfl ?_
  refine g_static (rm := R_m_read1) C (y := (⟨"com/example/sigillum/sigillum/codec/DerReaderHasMorePinLaw", "read", "(Lcom/example/sigillum/sigillum/codec/DerReader;Z)V"⟩ : MethodName)) (hw _ (List.mem_of_getElem? (i := 58) rfl)) (hw _ (List.mem_of_getElem? (i := 59) rfl)) (hw _ (List.mem_of_getElem? (i := 56) rfl)) (hw _ (List.mem_of_getElem? (i := 60) rfl)) (by decide) at_306 (pc' := 309) rfl (argsL := [(.ref sq), (.int (1 : Int32))]) (rest := []) (lenOf pd_13 rfl) rfl (W := 0) (Nat.le_of_eq rfl) rfl (fun hn9 => Met.back (rm := R_m_read1) (m_read1 hw sq t_b241 t_OCTET_STRING (2 : Int32) (8 : Int32) (9 : Int32) (4 : Int32) (1 : Int32) (1 : Int32) (4 : Int32) (4 : Int32) (upd (upd (upd (upd (upd (upd (upd (upd (upd (fun _ => (.int 0)) 0 (.int (48 : Int32))) 1 (.int (6 : Int32))) 2 (.int (4 : Int32))) 3 (.int (1 : Int32))) 4 (.int (nar .byte (p1.toInt8.toInt32)))) 5 (.int (4 : Int32))) 6 (.int (1 : Int32))) 7 (.int (nar .byte (p2.toInt8.toInt32)))) 8 (.int (nar .byte (p3.toInt8.toInt32)))) ⟨E_sq, F1_sq, F2_sq, F3_sq⟩ At_b241 E_OCTET_STRING F_OCTET_STRING gsq ne_t_b241_sq (by decide) (by decide) (by decide) rfl (by decide) (by decide) (by decide) (by decide) rfl (by decide) (by decide) (by decide) (by decide) (5 : Int32) (1 : Int32) (by decide) (by decide) (by decide) (by decide) (by decide) (by decide) (by decide) (by decide) (by decide) (by decide) (by decide) (S_OCTET_STRING.ext X.2)) hn9 C.hZ (hw _ (List.mem_of_getElem? (i := 60) rfl)) (hw _ (List.mem_of_getElem? (i := 56) rfl)) (by decide) (by decide)) (k' := 5) (n' := 27) rfl rfl (by decide) (by decide) ?_
  rintro _ h244 ⟨rfl, Kr, ⟨E_sq, F1_sq, F2_sq, F3_sq⟩⟩
  have X := X.keep Kr (allS gsq all0)
  have E_SEQUENCE := E_SEQUENCE.keep Kr
  have F_SEQUENCE := F_SEQUENCE.keep Kr (ninS ne_t_SEQUENCE_sq nin0)
  have E_NULL := E_NULL.keep Kr
  have F_NULL := F_NULL.keep Kr (ninS ne_t_NULL_sq nin0)
  have E_OCTET_STRING := E_OCTET_STRING.keep Kr
  have F_OCTET_STRING := F_OCTET_STRING.keep Kr (ninS ne_t_OCTET_STRING_sq nin0)
  have A232 := A232.keep Kr (ninS ne_b232_sq nin0)
  have At_b241 := At_b241.keep Kr (ninS ne_t_b241_sq nin0)
  have E_b241 := E_b241.keep Kr
  show Go w l _ n0 _ h244 5 27 309 #[.val (.int p0), .val (.int p1), .val (.int p2), .val (.int p3), .val (.int (2 : Int32)), .val (.int (1 : Int32)), .val (.int (1 : Int32)), .val (.int (1 : Int32)), .val (.int (3 : Int32)), .val (.int (3 : Int32)), .val (.int (6 : Int32)), .val (.int (9 : Int32)), .val (.ref b232), .val (.int (8 : Int32)), .val (.ref b241), .val (.int (1 : Int32)), .val (.ref sq)] []
  refine g_iload C at_309 (pc' := 311) rfl rfl ?_
  refine g_if_eq C at_311 (by decide) (pc' := 337) (by decide) (pcN := 314) rfl (fun q => absurd q (by decide)) (fun _ => ?_)
  refine g_aload C at_314 (pc' := 316) rfl rfl rfl ?_
  refine g_virtual (rm := R_m_hasMore) (a := sq) C (y := (⟨"com/example/sigillum/sigillum/codec/DerReader", "hasMore", "()Z"⟩ : MethodName)) (y' := (⟨"com/example/sigillum/sigillum/codec/DerReader", "hasMore", "()Z"⟩ : MethodName)) (hw _ (List.mem_of_getElem? (i := 28) rfl)) (hw _ (List.mem_of_getElem? (i := 29) rfl)) (g_nf C (hw _ (List.mem_of_getElem? (i := 31) rfl))) (hw _ (List.mem_of_getElem? (i := 31) rfl)) (hw _ (List.mem_of_getElem? (i := 30) rfl)) (by decide) E_sq at_316 (pc' := 319) rfl (argsL := []) (rest := []) (lenOf pd_1 rfl) rfl (W := 0) (Nat.le_of_eq rfl) rfl (fun hn9 => Met.back (rm := R_m_hasMore) (m_hasMore hw sq (5 : Int32) (8 : Int32) F2_sq F3_sq) hn9 C.hZ (hw _ (List.mem_of_getElem? (i := 32) rfl)) (hw _ (List.mem_of_getElem? (i := 2) rfl)) (by decide) (by decide)) (k' := 5) (n' := 27) rfl rfl (by decide) (by decide) ?_
  rintro _ _ ⟨rfl, rfl⟩
  show Go w l _ n0 _ h244 5 27 319 #[.val (.int p0), .val (.int p1), .val (.int p2), .val (.int p3), .val (.int (2 : Int32)), .val (.int (1 : Int32)), .val (.int (1 : Int32)), .val (.int (1 : Int32)), .val (.int (3 : Int32)), .val (.int (3 : Int32)), .val (.int (6 : Int32)), .val (.int (9 : Int32)), .val (.ref b232), .val (.int (8 : Int32)), .val (.ref b241), .val (.int (1 : Int32)), .val (.ref sq)] [(.int (1 : Int32))]
  refine g_iload C at_319 (pc' := 321) rfl rfl ?_
  refine g_iconst C (z := (1 : Int32)) at_321 (pc' := 322) rfl rfl ?_
  refine g_icmp_le C at_322 (by decide) (pc' := 329) (by decide) (pcN := 325) rfl (fun q => absurd q (by decide)) (fun _ => ?_)
  refine g_iconst C (z := (1 : Int32)) at_325 (pc' := 326) rfl rfl ?_
  refine g_goto C at_326 (by decide) (pc' := 330) (by decide) ?_
  refine g_icmp_ne C at_330 (by decide) (pc' := 337) (by decide) (pcN := 333) rfl (fun q => absurd rfl q) (fun _ => ?_)
  refine g_iconst C (z := (1 : Int32)) at_333 (pc' := 334) rfl rfl ?_
  refine g_goto C at_334 (by decide) (pc' := 338) (by decide) ?_
  refine g_istore C at_338 (pc' := 340) rfl (Ls' := #[.val (.int p0), .val (.int p1), .val (.int p2), .val (.int p3), .val (.int (2 : Int32)), .val (.int (1 : Int32)), .val (.int (1 : Int32)), .val (.int (1 : Int32)), .val (.int (3 : Int32)), .val (.int (3 : Int32)), .val (.int (6 : Int32)), .val (.int (9 : Int32)), .val (.ref b232), .val (.int (8 : Int32)), .val (.ref b241), .val (.int (1 : Int32)), .val (.ref sq)]) rfl ?_
  refine g_iload C at_340 (pc' := 342) rfl rfl ?_
  refine g_iconst C (z := (1 : Int32)) at_342 (pc' := 343) rfl rfl ?_
  refine g_icmp_le C at_343 (by decide) (pc' := 373) (by decide) (pcN := 346) rfl (fun q => absurd q (by decide)) (fun _ => ?_)
  refine g_aload C at_346 (pc' := 348) rfl rfl rfl ?_
  refine g_iload C at_348 (pc' := 350) rfl rfl ?_
  refine g_static (rm := R_m_read1) C (y := (⟨"com/example/sigillum/sigillum/codec/DerReaderHasMorePinLaw", "read", "(Lcom/example/sigillum/sigillum/codec/DerReader;Z)V"⟩ : MethodName)) (hw _ (List.mem_of_getElem? (i := 58) rfl)) (hw _ (List.mem_of_getElem? (i := 59) rfl)) (hw _ (List.mem_of_getElem? (i := 56) rfl)) (hw _ (List.mem_of_getElem? (i := 60) rfl)) (by decide) at_350 (pc' := 353) rfl (argsL := [(.ref sq), (.int (1 : Int32))]) (rest := []) (lenOf pd_13 rfl) rfl (W := 0) (Nat.le_of_eq rfl) rfl (fun hn9 => Met.back (rm := R_m_read1) (m_read1 hw sq t_b241 t_OCTET_STRING (5 : Int32) (8 : Int32) (9 : Int32) (4 : Int32) (1 : Int32) (1 : Int32) (4 : Int32) (7 : Int32) (upd (upd (upd (upd (upd (upd (upd (upd (upd (fun _ => (.int 0)) 0 (.int (48 : Int32))) 1 (.int (6 : Int32))) 2 (.int (4 : Int32))) 3 (.int (1 : Int32))) 4 (.int (nar .byte (p1.toInt8.toInt32)))) 5 (.int (4 : Int32))) 6 (.int (1 : Int32))) 7 (.int (nar .byte (p2.toInt8.toInt32)))) 8 (.int (nar .byte (p3.toInt8.toInt32)))) ⟨E_sq, F1_sq, F2_sq, F3_sq⟩ At_b241 E_OCTET_STRING F_OCTET_STRING gsq ne_t_b241_sq (by decide) (by decide) (by decide) rfl (by decide) (by decide) (by decide) (by decide) rfl (by decide) (by decide) (by decide) (by decide) (8 : Int32) (1 : Int32) (by decide) (by decide) (by decide) (by decide) (by decide) (by decide) (by decide) (by decide) (by decide) (by decide) (by decide) (S_OCTET_STRING.ext X.2)) hn9 C.hZ (hw _ (List.mem_of_getElem? (i := 60) rfl)) (hw _ (List.mem_of_getElem? (i := 56) rfl)) (by decide) (by decide)) (k' := 6) (n' := 30) rfl rfl (by decide) (by decide) ?_
  rintro _ h245 ⟨rfl, Kr, ⟨E_sq, F1_sq, F2_sq, F3_sq⟩⟩
  have X := X.keep Kr (allS gsq all0)
  have E_SEQUENCE := E_SEQUENCE.keep Kr
  have F_SEQUENCE := F_SEQUENCE.keep Kr (ninS ne_t_SEQUENCE_sq nin0)
  have E_NULL := E_NULL.keep Kr
  have F_NULL := F_NULL.keep Kr (ninS ne_t_NULL_sq nin0)
  have E_OCTET_STRING := E_OCTET_STRING.keep Kr
  have F_OCTET_STRING := F_OCTET_STRING.keep Kr (ninS ne_t_OCTET_STRING_sq nin0)
  have A232 := A232.keep Kr (ninS ne_b232_sq nin0)
  have At_b241 := At_b241.keep Kr (ninS ne_t_b241_sq nin0)
  have E_b241 := E_b241.keep Kr
  show Go w l _ n0 _ h245 6 30 353 #[.val (.int p0), .val (.int p1), .val (.int p2), .val (.int p3), .val (.int (2 : Int32)), .val (.int (1 : Int32)), .val (.int (1 : Int32)), .val (.int (1 : Int32)), .val (.int (3 : Int32)), .val (.int (3 : Int32)), .val (.int (6 : Int32)), .val (.int (9 : Int32)), .val (.ref b232), .val (.int (8 : Int32)), .val (.ref b241), .val (.int (1 : Int32)), .val (.ref sq)] []
  refine g_iload C at_353 (pc' := 355) rfl rfl ?_
  refine g_if_eq C at_355 (by decide) (pc' := 370) (by decide) (pcN := 358) rfl (fun q => absurd q (by decide)) (fun _ => ?_)
  refine g_aload C at_358 (pc' := 360) rfl rfl rfl ?_
  refine g_virtual (rm := R_m_hasMore) (a := sq) C (y := (⟨"com/example/sigillum/sigillum/codec/DerReader", "hasMore", "()Z"⟩ : MethodName)) (y' := (⟨"com/example/sigillum/sigillum/codec/DerReader", "hasMore", "()Z"⟩ : MethodName)) (hw _ (List.mem_of_getElem? (i := 28) rfl)) (hw _ (List.mem_of_getElem? (i := 29) rfl)) (g_nf C (hw _ (List.mem_of_getElem? (i := 31) rfl))) (hw _ (List.mem_of_getElem? (i := 31) rfl)) (hw _ (List.mem_of_getElem? (i := 30) rfl)) (by decide) E_sq at_360 (pc' := 363) rfl (argsL := []) (rest := []) (lenOf pd_1 rfl) rfl (W := 0) (Nat.le_of_eq rfl) rfl (fun hn9 => Met.back (rm := R_m_hasMore) (m_hasMore hw sq (8 : Int32) (8 : Int32) F2_sq F3_sq) hn9 C.hZ (hw _ (List.mem_of_getElem? (i := 32) rfl)) (hw _ (List.mem_of_getElem? (i := 2) rfl)) (by decide) (by decide)) (k' := 6) (n' := 30) rfl rfl (by decide) (by decide) ?_
  rintro _ _ ⟨rfl, rfl⟩
  show Go w l _ n0 _ h245 6 30 363 #[.val (.int p0), .val (.int p1), .val (.int p2), .val (.int p3), .val (.int (2 : Int32)), .val (.int (1 : Int32)), .val (.int (1 : Int32)), .val (.int (1 : Int32)), .val (.int (3 : Int32)), .val (.int (3 : Int32)), .val (.int (6 : Int32)), .val (.int (9 : Int32)), .val (.ref b232), .val (.int (8 : Int32)), .val (.ref b241), .val (.int (1 : Int32)), .val (.ref sq)] [(.int (0 : Int32))]
  refine g_if_ne C at_363 (by decide) (pc' := 370) (by decide) (pcN := 366) rfl (fun q => absurd rfl q) (fun _ => ?_)
  refine g_iconst C (z := (1 : Int32)) at_366 (pc' := 367) rfl rfl ?_
  refine g_goto C at_367 (by decide) (pc' := 371) (by decide) ?_
  refine g_istore C at_371 (pc' := 373) rfl (Ls' := #[.val (.int p0), .val (.int p1), .val (.int p2), .val (.int p3), .val (.int (2 : Int32)), .val (.int (1 : Int32)), .val (.int (1 : Int32)), .val (.int (1 : Int32)), .val (.int (3 : Int32)), .val (.int (3 : Int32)), .val (.int (6 : Int32)), .val (.int (9 : Int32)), .val (.ref b232), .val (.int (8 : Int32)), .val (.ref b241), .val (.int (1 : Int32)), .val (.ref sq)]) rfl ?_
  refine g_iload C at_373 (pc' := 375) rfl rfl ?_
  exact g_retN C (t := .boolean) rfl (by simp) at_375 rfl (by decide) (by decide)
set_option maxRecDepth 65536 in
set_option maxHeartbeats 40000000 in
theorem seg43_0 {l : Launch} {Z : State} {a0 : Array Value} (hw : ∀ d ∈ tables_1, d.before a0 Z = true) {w : Wk} {n0 : Nat} {h0 : Heap} {Y : State → Outcome → Prop} (p0 p1 p2 p3 : Int32) (t_SEQUENCE t_NULL t_OCTET_STRING : Addr) (C : Cx w Z "com/example/sigillum/sigillum/codec/DerReaderHasMorePinLaw" code 17 (some .boolean) "law" room_1 n0 (fun v _ => v = some (.int 1)) Y) (X : Old Z n0 h0) (S_SEQUENCE : Sta Z Z.heap "com/example/sigillum/sigillum/codec/DerTag" "SEQUENCE" "Lcom/example/sigillum/sigillum/codec/DerTag;" (.ref t_SEQUENCE)) (E_SEQUENCE : Exa Z h0 t_SEQUENCE "com/example/sigillum/sigillum/codec/DerTag") (F_SEQUENCE : Fld Z h0 t_SEQUENCE "com/example/sigillum/sigillum/codec/DerTag" "identifier" "I" (.int 48)) (S_NULL : Sta Z Z.heap "com/example/sigillum/sigillum/codec/DerTag" "NULL" "Lcom/example/sigillum/sigillum/codec/DerTag;" (.ref t_NULL)) (E_NULL : Exa Z h0 t_NULL "com/example/sigillum/sigillum/codec/DerTag") (F_NULL : Fld Z h0 t_NULL "com/example/sigillum/sigillum/codec/DerTag" "identifier" "I" (.int 5)) (S_OCTET_STRING : Sta Z Z.heap "com/example/sigillum/sigillum/codec/DerTag" "OCTET_STRING" "Lcom/example/sigillum/sigillum/codec/DerTag;" (.ref t_OCTET_STRING)) (E_OCTET_STRING : Exa Z h0 t_OCTET_STRING "com/example/sigillum/sigillum/codec/DerTag") (F_OCTET_STRING : Fld Z h0 t_OCTET_STRING "com/example/sigillum/sigillum/codec/DerTag" "identifier" "I" (.int 4)) :
    Go w l room_1 n0 Y h0 0 0 43 #[.val (.int p0), .val (.int p1), .val (.int p2), .val (.int p3), .val (.int (0 : Int32)), .unset, .unset, .unset, .unset, .unset, .unset, .unset, .unset, .unset, .unset, .unset, .unset] [] := by
  refine g_iloadN C at_43 (pc' := 44) rfl rfl ?_
  refine g_iconst C (z := (1 : Int32)) at_44 (pc' := 45) rfl rfl ?_
  refine g_iand C at_45 (pc' := 46) rfl ?_
  refine g_if_eq C at_46 (by decide) (pc' := 53) (by decide) (pcN := 49) rfl (fun q46 => ?_) (fun q46 => ?_)
  · refine g_iconst C (z := (0 : Int32)) at_53 (pc' := 54) rfl rfl ?_
    refine g_istore C at_54 (pc' := 56) rfl (Ls' := #[.val (.int p0), .val (.int p1), .val (.int p2), .val (.int p3), .val (.int (0 : Int32)), .val (.int (0 : Int32)), .unset, .unset, .unset, .unset, .unset, .unset, .unset, .unset, .unset, .unset, .unset]) rfl ?_
    refine g_iloadN C at_56 (pc' := 57) rfl rfl ?_
    refine g_iconst C (z := (2 : Int32)) at_57 (pc' := 58) rfl rfl ?_
    refine g_iand C at_58 (pc' := 59) rfl ?_
    refine g_if_eq C at_59 (by decide) (pc' := 66) (by decide) (pcN := 62) rfl (fun q59 => ?_) (fun q59 => ?_)
    · refine g_iconst C (z := (0 : Int32)) at_66 (pc' := 67) rfl rfl ?_
      refine g_istore C at_67 (pc' := 69) rfl (Ls' := #[.val (.int p0), .val (.int p1), .val (.int p2), .val (.int p3), .val (.int (0 : Int32)), .val (.int (0 : Int32)), .val (.int (0 : Int32)), .unset, .unset, .unset, .unset, .unset, .unset, .unset, .unset, .unset, .unset]) rfl ?_
      refine g_iloadN C at_69 (pc' := 70) rfl rfl ?_
      refine g_iconst C (z := (4 : Int32)) at_70 (pc' := 71) rfl rfl ?_
      refine g_iand C at_71 (pc' := 72) rfl ?_
      refine g_if_eq C at_72 (by decide) (pc' := 79) (by decide) (pcN := 75) rfl (fun q72 => ?_) (fun q72 => ?_)
      · refine g_iconst C (z := (0 : Int32)) at_79 (pc' := 80) rfl rfl ?_
        refine g_istore C at_80 (pc' := 82) rfl (Ls' := #[.val (.int p0), .val (.int p1), .val (.int p2), .val (.int p3), .val (.int (0 : Int32)), .val (.int (0 : Int32)), .val (.int (0 : Int32)), .val (.int (0 : Int32)), .unset, .unset, .unset, .unset, .unset, .unset, .unset, .unset, .unset]) rfl ?_
        exact seg82_00 (C := C) hw p0 p1 p2 p3 (0 : Int32) (0 : Int32) t_SEQUENCE t_NULL t_OCTET_STRING X S_SEQUENCE E_SEQUENCE F_SEQUENCE S_NULL E_NULL F_NULL S_OCTET_STRING E_OCTET_STRING F_OCTET_STRING
      · refine g_iconst C (z := (1 : Int32)) at_75 (pc' := 76) rfl rfl ?_
        refine g_goto C at_76 (by decide) (pc' := 80) (by decide) ?_
        refine g_istore C at_80 (pc' := 82) rfl (Ls' := #[.val (.int p0), .val (.int p1), .val (.int p2), .val (.int p3), .val (.int (0 : Int32)), .val (.int (0 : Int32)), .val (.int (0 : Int32)), .val (.int (1 : Int32)), .unset, .unset, .unset, .unset, .unset, .unset, .unset, .unset, .unset]) rfl ?_
        exact seg82_01 (C := C) hw p0 p1 p2 p3 (0 : Int32) (0 : Int32) t_SEQUENCE t_NULL t_OCTET_STRING X S_SEQUENCE E_SEQUENCE F_SEQUENCE S_NULL E_NULL F_NULL S_OCTET_STRING E_OCTET_STRING F_OCTET_STRING
    · refine g_iconst C (z := (1 : Int32)) at_62 (pc' := 63) rfl rfl ?_
      refine g_goto C at_63 (by decide) (pc' := 67) (by decide) ?_
      refine g_istore C at_67 (pc' := 69) rfl (Ls' := #[.val (.int p0), .val (.int p1), .val (.int p2), .val (.int p3), .val (.int (0 : Int32)), .val (.int (0 : Int32)), .val (.int (1 : Int32)), .unset, .unset, .unset, .unset, .unset, .unset, .unset, .unset, .unset, .unset]) rfl ?_
      refine g_iloadN C at_69 (pc' := 70) rfl rfl ?_
      refine g_iconst C (z := (4 : Int32)) at_70 (pc' := 71) rfl rfl ?_
      refine g_iand C at_71 (pc' := 72) rfl ?_
      refine g_if_eq C at_72 (by decide) (pc' := 79) (by decide) (pcN := 75) rfl (fun q72 => ?_) (fun q72 => ?_)
      · refine g_iconst C (z := (0 : Int32)) at_79 (pc' := 80) rfl rfl ?_
        refine g_istore C at_80 (pc' := 82) rfl (Ls' := #[.val (.int p0), .val (.int p1), .val (.int p2), .val (.int p3), .val (.int (0 : Int32)), .val (.int (0 : Int32)), .val (.int (1 : Int32)), .val (.int (0 : Int32)), .unset, .unset, .unset, .unset, .unset, .unset, .unset, .unset, .unset]) rfl ?_
        exact seg82_00 (C := C) hw p0 p1 p2 p3 (0 : Int32) (1 : Int32) t_SEQUENCE t_NULL t_OCTET_STRING X S_SEQUENCE E_SEQUENCE F_SEQUENCE S_NULL E_NULL F_NULL S_OCTET_STRING E_OCTET_STRING F_OCTET_STRING
      · refine g_iconst C (z := (1 : Int32)) at_75 (pc' := 76) rfl rfl ?_
        refine g_goto C at_76 (by decide) (pc' := 80) (by decide) ?_
        refine g_istore C at_80 (pc' := 82) rfl (Ls' := #[.val (.int p0), .val (.int p1), .val (.int p2), .val (.int p3), .val (.int (0 : Int32)), .val (.int (0 : Int32)), .val (.int (1 : Int32)), .val (.int (1 : Int32)), .unset, .unset, .unset, .unset, .unset, .unset, .unset, .unset, .unset]) rfl ?_
        exact seg82_01 (C := C) hw p0 p1 p2 p3 (0 : Int32) (1 : Int32) t_SEQUENCE t_NULL t_OCTET_STRING X S_SEQUENCE E_SEQUENCE F_SEQUENCE S_NULL E_NULL F_NULL S_OCTET_STRING E_OCTET_STRING F_OCTET_STRING
  · refine g_iconst C (z := (1 : Int32)) at_49 (pc' := 50) rfl rfl ?_
    refine g_goto C at_50 (by decide) (pc' := 54) (by decide) ?_
    refine g_istore C at_54 (pc' := 56) rfl (Ls' := #[.val (.int p0), .val (.int p1), .val (.int p2), .val (.int p3), .val (.int (0 : Int32)), .val (.int (1 : Int32)), .unset, .unset, .unset, .unset, .unset, .unset, .unset, .unset, .unset, .unset, .unset]) rfl ?_
    refine g_iloadN C at_56 (pc' := 57) rfl rfl ?_
    refine g_iconst C (z := (2 : Int32)) at_57 (pc' := 58) rfl rfl ?_
    refine g_iand C at_58 (pc' := 59) rfl ?_
    refine g_if_eq C at_59 (by decide) (pc' := 66) (by decide) (pcN := 62) rfl (fun q59 => ?_) (fun q59 => ?_)
    · refine g_iconst C (z := (0 : Int32)) at_66 (pc' := 67) rfl rfl ?_
      refine g_istore C at_67 (pc' := 69) rfl (Ls' := #[.val (.int p0), .val (.int p1), .val (.int p2), .val (.int p3), .val (.int (0 : Int32)), .val (.int (1 : Int32)), .val (.int (0 : Int32)), .unset, .unset, .unset, .unset, .unset, .unset, .unset, .unset, .unset, .unset]) rfl ?_
      refine g_iloadN C at_69 (pc' := 70) rfl rfl ?_
      refine g_iconst C (z := (4 : Int32)) at_70 (pc' := 71) rfl rfl ?_
      refine g_iand C at_71 (pc' := 72) rfl ?_
      refine g_if_eq C at_72 (by decide) (pc' := 79) (by decide) (pcN := 75) rfl (fun q72 => ?_) (fun q72 => ?_)
      · refine g_iconst C (z := (0 : Int32)) at_79 (pc' := 80) rfl rfl ?_
        refine g_istore C at_80 (pc' := 82) rfl (Ls' := #[.val (.int p0), .val (.int p1), .val (.int p2), .val (.int p3), .val (.int (0 : Int32)), .val (.int (1 : Int32)), .val (.int (0 : Int32)), .val (.int (0 : Int32)), .unset, .unset, .unset, .unset, .unset, .unset, .unset, .unset, .unset]) rfl ?_
        exact seg82_00 (C := C) hw p0 p1 p2 p3 (1 : Int32) (0 : Int32) t_SEQUENCE t_NULL t_OCTET_STRING X S_SEQUENCE E_SEQUENCE F_SEQUENCE S_NULL E_NULL F_NULL S_OCTET_STRING E_OCTET_STRING F_OCTET_STRING
      · refine g_iconst C (z := (1 : Int32)) at_75 (pc' := 76) rfl rfl ?_
        refine g_goto C at_76 (by decide) (pc' := 80) (by decide) ?_
        refine g_istore C at_80 (pc' := 82) rfl (Ls' := #[.val (.int p0), .val (.int p1), .val (.int p2), .val (.int p3), .val (.int (0 : Int32)), .val (.int (1 : Int32)), .val (.int (0 : Int32)), .val (.int (1 : Int32)), .unset, .unset, .unset, .unset, .unset, .unset, .unset, .unset, .unset]) rfl ?_
        exact seg82_01 (C := C) hw p0 p1 p2 p3 (1 : Int32) (0 : Int32) t_SEQUENCE t_NULL t_OCTET_STRING X S_SEQUENCE E_SEQUENCE F_SEQUENCE S_NULL E_NULL F_NULL S_OCTET_STRING E_OCTET_STRING F_OCTET_STRING
    · refine g_iconst C (z := (1 : Int32)) at_62 (pc' := 63) rfl rfl ?_
      refine g_goto C at_63 (by decide) (pc' := 67) (by decide) ?_
      refine g_istore C at_67 (pc' := 69) rfl (Ls' := #[.val (.int p0), .val (.int p1), .val (.int p2), .val (.int p3), .val (.int (0 : Int32)), .val (.int (1 : Int32)), .val (.int (1 : Int32)), .unset, .unset, .unset, .unset, .unset, .unset, .unset, .unset, .unset, .unset]) rfl ?_
      refine g_iloadN C at_69 (pc' := 70) rfl rfl ?_
      refine g_iconst C (z := (4 : Int32)) at_70 (pc' := 71) rfl rfl ?_
      refine g_iand C at_71 (pc' := 72) rfl ?_
      refine g_if_eq C at_72 (by decide) (pc' := 79) (by decide) (pcN := 75) rfl (fun q72 => ?_) (fun q72 => ?_)
      · refine g_iconst C (z := (0 : Int32)) at_79 (pc' := 80) rfl rfl ?_
        refine g_istore C at_80 (pc' := 82) rfl (Ls' := #[.val (.int p0), .val (.int p1), .val (.int p2), .val (.int p3), .val (.int (0 : Int32)), .val (.int (1 : Int32)), .val (.int (1 : Int32)), .val (.int (0 : Int32)), .unset, .unset, .unset, .unset, .unset, .unset, .unset, .unset, .unset]) rfl ?_
        exact seg82_00 (C := C) hw p0 p1 p2 p3 (1 : Int32) (1 : Int32) t_SEQUENCE t_NULL t_OCTET_STRING X S_SEQUENCE E_SEQUENCE F_SEQUENCE S_NULL E_NULL F_NULL S_OCTET_STRING E_OCTET_STRING F_OCTET_STRING
      · refine g_iconst C (z := (1 : Int32)) at_75 (pc' := 76) rfl rfl ?_
        refine g_goto C at_76 (by decide) (pc' := 80) (by decide) ?_
        refine g_istore C at_80 (pc' := 82) rfl (Ls' := #[.val (.int p0), .val (.int p1), .val (.int p2), .val (.int p3), .val (.int (0 : Int32)), .val (.int (1 : Int32)), .val (.int (1 : Int32)), .val (.int (1 : Int32)), .unset, .unset, .unset, .unset, .unset, .unset, .unset, .unset, .unset]) rfl ?_
        exact seg82_01 (C := C) hw p0 p1 p2 p3 (1 : Int32) (1 : Int32) t_SEQUENCE t_NULL t_OCTET_STRING X S_SEQUENCE E_SEQUENCE F_SEQUENCE S_NULL E_NULL F_NULL S_OCTET_STRING E_OCTET_STRING F_OCTET_STRING
set_option maxRecDepth 65536 in
set_option maxHeartbeats 40000000 in
theorem seg43_1 {l : Launch} {Z : State} {a0 : Array Value} (hw : ∀ d ∈ tables_1, d.before a0 Z = true) {w : Wk} {n0 : Nat} {h0 : Heap} {Y : State → Outcome → Prop} (p0 p1 p2 p3 : Int32) (t_SEQUENCE t_NULL t_OCTET_STRING : Addr) (C : Cx w Z "com/example/sigillum/sigillum/codec/DerReaderHasMorePinLaw" code 17 (some .boolean) "law" room_1 n0 (fun v _ => v = some (.int 1)) Y) (X : Old Z n0 h0) (S_SEQUENCE : Sta Z Z.heap "com/example/sigillum/sigillum/codec/DerTag" "SEQUENCE" "Lcom/example/sigillum/sigillum/codec/DerTag;" (.ref t_SEQUENCE)) (E_SEQUENCE : Exa Z h0 t_SEQUENCE "com/example/sigillum/sigillum/codec/DerTag") (F_SEQUENCE : Fld Z h0 t_SEQUENCE "com/example/sigillum/sigillum/codec/DerTag" "identifier" "I" (.int 48)) (S_NULL : Sta Z Z.heap "com/example/sigillum/sigillum/codec/DerTag" "NULL" "Lcom/example/sigillum/sigillum/codec/DerTag;" (.ref t_NULL)) (E_NULL : Exa Z h0 t_NULL "com/example/sigillum/sigillum/codec/DerTag") (F_NULL : Fld Z h0 t_NULL "com/example/sigillum/sigillum/codec/DerTag" "identifier" "I" (.int 5)) (S_OCTET_STRING : Sta Z Z.heap "com/example/sigillum/sigillum/codec/DerTag" "OCTET_STRING" "Lcom/example/sigillum/sigillum/codec/DerTag;" (.ref t_OCTET_STRING)) (E_OCTET_STRING : Exa Z h0 t_OCTET_STRING "com/example/sigillum/sigillum/codec/DerTag") (F_OCTET_STRING : Fld Z h0 t_OCTET_STRING "com/example/sigillum/sigillum/codec/DerTag" "identifier" "I" (.int 4)) :
    Go w l room_1 n0 Y h0 0 0 43 #[.val (.int p0), .val (.int p1), .val (.int p2), .val (.int p3), .val (.int (1 : Int32)), .unset, .unset, .unset, .unset, .unset, .unset, .unset, .unset, .unset, .unset, .unset, .unset] [] := by
  refine g_iloadN C at_43 (pc' := 44) rfl rfl ?_
  refine g_iconst C (z := (1 : Int32)) at_44 (pc' := 45) rfl rfl ?_
  refine g_iand C at_45 (pc' := 46) rfl ?_
  refine g_if_eq C at_46 (by decide) (pc' := 53) (by decide) (pcN := 49) rfl (fun q46 => ?_) (fun q46 => ?_)
  · refine g_iconst C (z := (0 : Int32)) at_53 (pc' := 54) rfl rfl ?_
    refine g_istore C at_54 (pc' := 56) rfl (Ls' := #[.val (.int p0), .val (.int p1), .val (.int p2), .val (.int p3), .val (.int (1 : Int32)), .val (.int (0 : Int32)), .unset, .unset, .unset, .unset, .unset, .unset, .unset, .unset, .unset, .unset, .unset]) rfl ?_
    refine g_iloadN C at_56 (pc' := 57) rfl rfl ?_
    refine g_iconst C (z := (2 : Int32)) at_57 (pc' := 58) rfl rfl ?_
    refine g_iand C at_58 (pc' := 59) rfl ?_
    refine g_if_eq C at_59 (by decide) (pc' := 66) (by decide) (pcN := 62) rfl (fun q59 => ?_) (fun q59 => ?_)
    · refine g_iconst C (z := (0 : Int32)) at_66 (pc' := 67) rfl rfl ?_
      refine g_istore C at_67 (pc' := 69) rfl (Ls' := #[.val (.int p0), .val (.int p1), .val (.int p2), .val (.int p3), .val (.int (1 : Int32)), .val (.int (0 : Int32)), .val (.int (0 : Int32)), .unset, .unset, .unset, .unset, .unset, .unset, .unset, .unset, .unset, .unset]) rfl ?_
      refine g_iloadN C at_69 (pc' := 70) rfl rfl ?_
      refine g_iconst C (z := (4 : Int32)) at_70 (pc' := 71) rfl rfl ?_
      refine g_iand C at_71 (pc' := 72) rfl ?_
      refine g_if_eq C at_72 (by decide) (pc' := 79) (by decide) (pcN := 75) rfl (fun q72 => ?_) (fun q72 => ?_)
      · refine g_iconst C (z := (0 : Int32)) at_79 (pc' := 80) rfl rfl ?_
        refine g_istore C at_80 (pc' := 82) rfl (Ls' := #[.val (.int p0), .val (.int p1), .val (.int p2), .val (.int p3), .val (.int (1 : Int32)), .val (.int (0 : Int32)), .val (.int (0 : Int32)), .val (.int (0 : Int32)), .unset, .unset, .unset, .unset, .unset, .unset, .unset, .unset, .unset]) rfl ?_
        exact seg82_100 (C := C) hw p0 p1 p2 p3 (0 : Int32) t_SEQUENCE t_NULL t_OCTET_STRING X S_SEQUENCE E_SEQUENCE F_SEQUENCE S_NULL E_NULL F_NULL S_OCTET_STRING E_OCTET_STRING F_OCTET_STRING
      · refine g_iconst C (z := (1 : Int32)) at_75 (pc' := 76) rfl rfl ?_
        refine g_goto C at_76 (by decide) (pc' := 80) (by decide) ?_
        refine g_istore C at_80 (pc' := 82) rfl (Ls' := #[.val (.int p0), .val (.int p1), .val (.int p2), .val (.int p3), .val (.int (1 : Int32)), .val (.int (0 : Int32)), .val (.int (0 : Int32)), .val (.int (1 : Int32)), .unset, .unset, .unset, .unset, .unset, .unset, .unset, .unset, .unset]) rfl ?_
        exact seg82_101 (C := C) hw p0 p1 p2 p3 (0 : Int32) t_SEQUENCE t_NULL t_OCTET_STRING X S_SEQUENCE E_SEQUENCE F_SEQUENCE S_NULL E_NULL F_NULL S_OCTET_STRING E_OCTET_STRING F_OCTET_STRING
    · refine g_iconst C (z := (1 : Int32)) at_62 (pc' := 63) rfl rfl ?_
      refine g_goto C at_63 (by decide) (pc' := 67) (by decide) ?_
      refine g_istore C at_67 (pc' := 69) rfl (Ls' := #[.val (.int p0), .val (.int p1), .val (.int p2), .val (.int p3), .val (.int (1 : Int32)), .val (.int (0 : Int32)), .val (.int (1 : Int32)), .unset, .unset, .unset, .unset, .unset, .unset, .unset, .unset, .unset, .unset]) rfl ?_
      refine g_iloadN C at_69 (pc' := 70) rfl rfl ?_
      refine g_iconst C (z := (4 : Int32)) at_70 (pc' := 71) rfl rfl ?_
      refine g_iand C at_71 (pc' := 72) rfl ?_
      refine g_if_eq C at_72 (by decide) (pc' := 79) (by decide) (pcN := 75) rfl (fun q72 => ?_) (fun q72 => ?_)
      · refine g_iconst C (z := (0 : Int32)) at_79 (pc' := 80) rfl rfl ?_
        refine g_istore C at_80 (pc' := 82) rfl (Ls' := #[.val (.int p0), .val (.int p1), .val (.int p2), .val (.int p3), .val (.int (1 : Int32)), .val (.int (0 : Int32)), .val (.int (1 : Int32)), .val (.int (0 : Int32)), .unset, .unset, .unset, .unset, .unset, .unset, .unset, .unset, .unset]) rfl ?_
        exact seg82_100 (C := C) hw p0 p1 p2 p3 (1 : Int32) t_SEQUENCE t_NULL t_OCTET_STRING X S_SEQUENCE E_SEQUENCE F_SEQUENCE S_NULL E_NULL F_NULL S_OCTET_STRING E_OCTET_STRING F_OCTET_STRING
      · refine g_iconst C (z := (1 : Int32)) at_75 (pc' := 76) rfl rfl ?_
        refine g_goto C at_76 (by decide) (pc' := 80) (by decide) ?_
        refine g_istore C at_80 (pc' := 82) rfl (Ls' := #[.val (.int p0), .val (.int p1), .val (.int p2), .val (.int p3), .val (.int (1 : Int32)), .val (.int (0 : Int32)), .val (.int (1 : Int32)), .val (.int (1 : Int32)), .unset, .unset, .unset, .unset, .unset, .unset, .unset, .unset, .unset]) rfl ?_
        exact seg82_101 (C := C) hw p0 p1 p2 p3 (1 : Int32) t_SEQUENCE t_NULL t_OCTET_STRING X S_SEQUENCE E_SEQUENCE F_SEQUENCE S_NULL E_NULL F_NULL S_OCTET_STRING E_OCTET_STRING F_OCTET_STRING
  · refine g_iconst C (z := (1 : Int32)) at_49 (pc' := 50) rfl rfl ?_
    refine g_goto C at_50 (by decide) (pc' := 54) (by decide) ?_
    refine g_istore C at_54 (pc' := 56) rfl (Ls' := #[.val (.int p0), .val (.int p1), .val (.int p2), .val (.int p3), .val (.int (1 : Int32)), .val (.int (1 : Int32)), .unset, .unset, .unset, .unset, .unset, .unset, .unset, .unset, .unset, .unset, .unset]) rfl ?_
    refine g_iloadN C at_56 (pc' := 57) rfl rfl ?_
    refine g_iconst C (z := (2 : Int32)) at_57 (pc' := 58) rfl rfl ?_
    refine g_iand C at_58 (pc' := 59) rfl ?_
    refine g_if_eq C at_59 (by decide) (pc' := 66) (by decide) (pcN := 62) rfl (fun q59 => ?_) (fun q59 => ?_)
    · refine g_iconst C (z := (0 : Int32)) at_66 (pc' := 67) rfl rfl ?_
      refine g_istore C at_67 (pc' := 69) rfl (Ls' := #[.val (.int p0), .val (.int p1), .val (.int p2), .val (.int p3), .val (.int (1 : Int32)), .val (.int (1 : Int32)), .val (.int (0 : Int32)), .unset, .unset, .unset, .unset, .unset, .unset, .unset, .unset, .unset, .unset]) rfl ?_
      refine g_iloadN C at_69 (pc' := 70) rfl rfl ?_
      refine g_iconst C (z := (4 : Int32)) at_70 (pc' := 71) rfl rfl ?_
      refine g_iand C at_71 (pc' := 72) rfl ?_
      refine g_if_eq C at_72 (by decide) (pc' := 79) (by decide) (pcN := 75) rfl (fun q72 => ?_) (fun q72 => ?_)
      · refine g_iconst C (z := (0 : Int32)) at_79 (pc' := 80) rfl rfl ?_
        refine g_istore C at_80 (pc' := 82) rfl (Ls' := #[.val (.int p0), .val (.int p1), .val (.int p2), .val (.int p3), .val (.int (1 : Int32)), .val (.int (1 : Int32)), .val (.int (0 : Int32)), .val (.int (0 : Int32)), .unset, .unset, .unset, .unset, .unset, .unset, .unset, .unset, .unset]) rfl ?_
        exact seg82_110 (C := C) hw p0 p1 p2 p3 (0 : Int32) t_SEQUENCE t_NULL t_OCTET_STRING X S_SEQUENCE E_SEQUENCE F_SEQUENCE S_NULL E_NULL F_NULL S_OCTET_STRING E_OCTET_STRING F_OCTET_STRING
      · refine g_iconst C (z := (1 : Int32)) at_75 (pc' := 76) rfl rfl ?_
        refine g_goto C at_76 (by decide) (pc' := 80) (by decide) ?_
        refine g_istore C at_80 (pc' := 82) rfl (Ls' := #[.val (.int p0), .val (.int p1), .val (.int p2), .val (.int p3), .val (.int (1 : Int32)), .val (.int (1 : Int32)), .val (.int (0 : Int32)), .val (.int (1 : Int32)), .unset, .unset, .unset, .unset, .unset, .unset, .unset, .unset, .unset]) rfl ?_
        exact seg82_111 (C := C) hw p0 p1 p2 p3 (0 : Int32) t_SEQUENCE t_NULL t_OCTET_STRING X S_SEQUENCE E_SEQUENCE F_SEQUENCE S_NULL E_NULL F_NULL S_OCTET_STRING E_OCTET_STRING F_OCTET_STRING
    · refine g_iconst C (z := (1 : Int32)) at_62 (pc' := 63) rfl rfl ?_
      refine g_goto C at_63 (by decide) (pc' := 67) (by decide) ?_
      refine g_istore C at_67 (pc' := 69) rfl (Ls' := #[.val (.int p0), .val (.int p1), .val (.int p2), .val (.int p3), .val (.int (1 : Int32)), .val (.int (1 : Int32)), .val (.int (1 : Int32)), .unset, .unset, .unset, .unset, .unset, .unset, .unset, .unset, .unset, .unset]) rfl ?_
      refine g_iloadN C at_69 (pc' := 70) rfl rfl ?_
      refine g_iconst C (z := (4 : Int32)) at_70 (pc' := 71) rfl rfl ?_
      refine g_iand C at_71 (pc' := 72) rfl ?_
      refine g_if_eq C at_72 (by decide) (pc' := 79) (by decide) (pcN := 75) rfl (fun q72 => ?_) (fun q72 => ?_)
      · refine g_iconst C (z := (0 : Int32)) at_79 (pc' := 80) rfl rfl ?_
        refine g_istore C at_80 (pc' := 82) rfl (Ls' := #[.val (.int p0), .val (.int p1), .val (.int p2), .val (.int p3), .val (.int (1 : Int32)), .val (.int (1 : Int32)), .val (.int (1 : Int32)), .val (.int (0 : Int32)), .unset, .unset, .unset, .unset, .unset, .unset, .unset, .unset, .unset]) rfl ?_
        exact seg82_110 (C := C) hw p0 p1 p2 p3 (1 : Int32) t_SEQUENCE t_NULL t_OCTET_STRING X S_SEQUENCE E_SEQUENCE F_SEQUENCE S_NULL E_NULL F_NULL S_OCTET_STRING E_OCTET_STRING F_OCTET_STRING
      · refine g_iconst C (z := (1 : Int32)) at_75 (pc' := 76) rfl rfl ?_
        refine g_goto C at_76 (by decide) (pc' := 80) (by decide) ?_
        refine g_istore C at_80 (pc' := 82) rfl (Ls' := #[.val (.int p0), .val (.int p1), .val (.int p2), .val (.int p3), .val (.int (1 : Int32)), .val (.int (1 : Int32)), .val (.int (1 : Int32)), .val (.int (1 : Int32)), .unset, .unset, .unset, .unset, .unset, .unset, .unset, .unset, .unset]) rfl ?_
        exact seg82_111 (C := C) hw p0 p1 p2 p3 (1 : Int32) t_SEQUENCE t_NULL t_OCTET_STRING X S_SEQUENCE E_SEQUENCE F_SEQUENCE S_NULL E_NULL F_NULL S_OCTET_STRING E_OCTET_STRING F_OCTET_STRING
set_option maxRecDepth 65536 in
set_option maxHeartbeats 40000000 in
theorem seg43_2 {l : Launch} {Z : State} {a0 : Array Value} (hw : ∀ d ∈ tables_1, d.before a0 Z = true) {w : Wk} {n0 : Nat} {h0 : Heap} {Y : State → Outcome → Prop} (p0 p1 p2 p3 : Int32) (t_SEQUENCE t_NULL t_OCTET_STRING : Addr) (C : Cx w Z "com/example/sigillum/sigillum/codec/DerReaderHasMorePinLaw" code 17 (some .boolean) "law" room_1 n0 (fun v _ => v = some (.int 1)) Y) (X : Old Z n0 h0) (S_SEQUENCE : Sta Z Z.heap "com/example/sigillum/sigillum/codec/DerTag" "SEQUENCE" "Lcom/example/sigillum/sigillum/codec/DerTag;" (.ref t_SEQUENCE)) (E_SEQUENCE : Exa Z h0 t_SEQUENCE "com/example/sigillum/sigillum/codec/DerTag") (F_SEQUENCE : Fld Z h0 t_SEQUENCE "com/example/sigillum/sigillum/codec/DerTag" "identifier" "I" (.int 48)) (S_NULL : Sta Z Z.heap "com/example/sigillum/sigillum/codec/DerTag" "NULL" "Lcom/example/sigillum/sigillum/codec/DerTag;" (.ref t_NULL)) (E_NULL : Exa Z h0 t_NULL "com/example/sigillum/sigillum/codec/DerTag") (F_NULL : Fld Z h0 t_NULL "com/example/sigillum/sigillum/codec/DerTag" "identifier" "I" (.int 5)) (S_OCTET_STRING : Sta Z Z.heap "com/example/sigillum/sigillum/codec/DerTag" "OCTET_STRING" "Lcom/example/sigillum/sigillum/codec/DerTag;" (.ref t_OCTET_STRING)) (E_OCTET_STRING : Exa Z h0 t_OCTET_STRING "com/example/sigillum/sigillum/codec/DerTag") (F_OCTET_STRING : Fld Z h0 t_OCTET_STRING "com/example/sigillum/sigillum/codec/DerTag" "identifier" "I" (.int 4)) :
    Go w l room_1 n0 Y h0 0 0 43 #[.val (.int p0), .val (.int p1), .val (.int p2), .val (.int p3), .val (.int (2 : Int32)), .unset, .unset, .unset, .unset, .unset, .unset, .unset, .unset, .unset, .unset, .unset, .unset] [] := by
  refine g_iloadN C at_43 (pc' := 44) rfl rfl ?_
  refine g_iconst C (z := (1 : Int32)) at_44 (pc' := 45) rfl rfl ?_
  refine g_iand C at_45 (pc' := 46) rfl ?_
  refine g_if_eq C at_46 (by decide) (pc' := 53) (by decide) (pcN := 49) rfl (fun q46 => ?_) (fun q46 => ?_)
  · refine g_iconst C (z := (0 : Int32)) at_53 (pc' := 54) rfl rfl ?_
    refine g_istore C at_54 (pc' := 56) rfl (Ls' := #[.val (.int p0), .val (.int p1), .val (.int p2), .val (.int p3), .val (.int (2 : Int32)), .val (.int (0 : Int32)), .unset, .unset, .unset, .unset, .unset, .unset, .unset, .unset, .unset, .unset, .unset]) rfl ?_
    refine g_iloadN C at_56 (pc' := 57) rfl rfl ?_
    refine g_iconst C (z := (2 : Int32)) at_57 (pc' := 58) rfl rfl ?_
    refine g_iand C at_58 (pc' := 59) rfl ?_
    refine g_if_eq C at_59 (by decide) (pc' := 66) (by decide) (pcN := 62) rfl (fun q59 => ?_) (fun q59 => ?_)
    · refine g_iconst C (z := (0 : Int32)) at_66 (pc' := 67) rfl rfl ?_
      refine g_istore C at_67 (pc' := 69) rfl (Ls' := #[.val (.int p0), .val (.int p1), .val (.int p2), .val (.int p3), .val (.int (2 : Int32)), .val (.int (0 : Int32)), .val (.int (0 : Int32)), .unset, .unset, .unset, .unset, .unset, .unset, .unset, .unset, .unset, .unset]) rfl ?_
      refine g_iloadN C at_69 (pc' := 70) rfl rfl ?_
      refine g_iconst C (z := (4 : Int32)) at_70 (pc' := 71) rfl rfl ?_
      refine g_iand C at_71 (pc' := 72) rfl ?_
      refine g_if_eq C at_72 (by decide) (pc' := 79) (by decide) (pcN := 75) rfl (fun q72 => ?_) (fun q72 => ?_)
      · refine g_iconst C (z := (0 : Int32)) at_79 (pc' := 80) rfl rfl ?_
        refine g_istore C at_80 (pc' := 82) rfl (Ls' := #[.val (.int p0), .val (.int p1), .val (.int p2), .val (.int p3), .val (.int (2 : Int32)), .val (.int (0 : Int32)), .val (.int (0 : Int32)), .val (.int (0 : Int32)), .unset, .unset, .unset, .unset, .unset, .unset, .unset, .unset, .unset]) rfl ?_
        exact seg82_2000 (C := C) hw p0 p1 p2 p3 t_SEQUENCE t_NULL t_OCTET_STRING X S_SEQUENCE E_SEQUENCE F_SEQUENCE S_NULL E_NULL F_NULL S_OCTET_STRING E_OCTET_STRING F_OCTET_STRING
      · refine g_iconst C (z := (1 : Int32)) at_75 (pc' := 76) rfl rfl ?_
        refine g_goto C at_76 (by decide) (pc' := 80) (by decide) ?_
        refine g_istore C at_80 (pc' := 82) rfl (Ls' := #[.val (.int p0), .val (.int p1), .val (.int p2), .val (.int p3), .val (.int (2 : Int32)), .val (.int (0 : Int32)), .val (.int (0 : Int32)), .val (.int (1 : Int32)), .unset, .unset, .unset, .unset, .unset, .unset, .unset, .unset, .unset]) rfl ?_
        exact seg82_2001 (C := C) hw p0 p1 p2 p3 t_SEQUENCE t_NULL t_OCTET_STRING X S_SEQUENCE E_SEQUENCE F_SEQUENCE S_NULL E_NULL F_NULL S_OCTET_STRING E_OCTET_STRING F_OCTET_STRING
    · refine g_iconst C (z := (1 : Int32)) at_62 (pc' := 63) rfl rfl ?_
      refine g_goto C at_63 (by decide) (pc' := 67) (by decide) ?_
      refine g_istore C at_67 (pc' := 69) rfl (Ls' := #[.val (.int p0), .val (.int p1), .val (.int p2), .val (.int p3), .val (.int (2 : Int32)), .val (.int (0 : Int32)), .val (.int (1 : Int32)), .unset, .unset, .unset, .unset, .unset, .unset, .unset, .unset, .unset, .unset]) rfl ?_
      refine g_iloadN C at_69 (pc' := 70) rfl rfl ?_
      refine g_iconst C (z := (4 : Int32)) at_70 (pc' := 71) rfl rfl ?_
      refine g_iand C at_71 (pc' := 72) rfl ?_
      refine g_if_eq C at_72 (by decide) (pc' := 79) (by decide) (pcN := 75) rfl (fun q72 => ?_) (fun q72 => ?_)
      · refine g_iconst C (z := (0 : Int32)) at_79 (pc' := 80) rfl rfl ?_
        refine g_istore C at_80 (pc' := 82) rfl (Ls' := #[.val (.int p0), .val (.int p1), .val (.int p2), .val (.int p3), .val (.int (2 : Int32)), .val (.int (0 : Int32)), .val (.int (1 : Int32)), .val (.int (0 : Int32)), .unset, .unset, .unset, .unset, .unset, .unset, .unset, .unset, .unset]) rfl ?_
        exact seg82_2010 (C := C) hw p0 p1 p2 p3 t_SEQUENCE t_NULL t_OCTET_STRING X S_SEQUENCE E_SEQUENCE F_SEQUENCE S_NULL E_NULL F_NULL S_OCTET_STRING E_OCTET_STRING F_OCTET_STRING
      · refine g_iconst C (z := (1 : Int32)) at_75 (pc' := 76) rfl rfl ?_
        refine g_goto C at_76 (by decide) (pc' := 80) (by decide) ?_
        refine g_istore C at_80 (pc' := 82) rfl (Ls' := #[.val (.int p0), .val (.int p1), .val (.int p2), .val (.int p3), .val (.int (2 : Int32)), .val (.int (0 : Int32)), .val (.int (1 : Int32)), .val (.int (1 : Int32)), .unset, .unset, .unset, .unset, .unset, .unset, .unset, .unset, .unset]) rfl ?_
        exact seg82_2011 (C := C) hw p0 p1 p2 p3 t_SEQUENCE t_NULL t_OCTET_STRING X S_SEQUENCE E_SEQUENCE F_SEQUENCE S_NULL E_NULL F_NULL S_OCTET_STRING E_OCTET_STRING F_OCTET_STRING
  · refine g_iconst C (z := (1 : Int32)) at_49 (pc' := 50) rfl rfl ?_
    refine g_goto C at_50 (by decide) (pc' := 54) (by decide) ?_
    refine g_istore C at_54 (pc' := 56) rfl (Ls' := #[.val (.int p0), .val (.int p1), .val (.int p2), .val (.int p3), .val (.int (2 : Int32)), .val (.int (1 : Int32)), .unset, .unset, .unset, .unset, .unset, .unset, .unset, .unset, .unset, .unset, .unset]) rfl ?_
    refine g_iloadN C at_56 (pc' := 57) rfl rfl ?_
    refine g_iconst C (z := (2 : Int32)) at_57 (pc' := 58) rfl rfl ?_
    refine g_iand C at_58 (pc' := 59) rfl ?_
    refine g_if_eq C at_59 (by decide) (pc' := 66) (by decide) (pcN := 62) rfl (fun q59 => ?_) (fun q59 => ?_)
    · refine g_iconst C (z := (0 : Int32)) at_66 (pc' := 67) rfl rfl ?_
      refine g_istore C at_67 (pc' := 69) rfl (Ls' := #[.val (.int p0), .val (.int p1), .val (.int p2), .val (.int p3), .val (.int (2 : Int32)), .val (.int (1 : Int32)), .val (.int (0 : Int32)), .unset, .unset, .unset, .unset, .unset, .unset, .unset, .unset, .unset, .unset]) rfl ?_
      refine g_iloadN C at_69 (pc' := 70) rfl rfl ?_
      refine g_iconst C (z := (4 : Int32)) at_70 (pc' := 71) rfl rfl ?_
      refine g_iand C at_71 (pc' := 72) rfl ?_
      refine g_if_eq C at_72 (by decide) (pc' := 79) (by decide) (pcN := 75) rfl (fun q72 => ?_) (fun q72 => ?_)
      · refine g_iconst C (z := (0 : Int32)) at_79 (pc' := 80) rfl rfl ?_
        refine g_istore C at_80 (pc' := 82) rfl (Ls' := #[.val (.int p0), .val (.int p1), .val (.int p2), .val (.int p3), .val (.int (2 : Int32)), .val (.int (1 : Int32)), .val (.int (0 : Int32)), .val (.int (0 : Int32)), .unset, .unset, .unset, .unset, .unset, .unset, .unset, .unset, .unset]) rfl ?_
        exact seg82_2100 (C := C) hw p0 p1 p2 p3 t_SEQUENCE t_NULL t_OCTET_STRING X S_SEQUENCE E_SEQUENCE F_SEQUENCE S_NULL E_NULL F_NULL S_OCTET_STRING E_OCTET_STRING F_OCTET_STRING
      · refine g_iconst C (z := (1 : Int32)) at_75 (pc' := 76) rfl rfl ?_
        refine g_goto C at_76 (by decide) (pc' := 80) (by decide) ?_
        refine g_istore C at_80 (pc' := 82) rfl (Ls' := #[.val (.int p0), .val (.int p1), .val (.int p2), .val (.int p3), .val (.int (2 : Int32)), .val (.int (1 : Int32)), .val (.int (0 : Int32)), .val (.int (1 : Int32)), .unset, .unset, .unset, .unset, .unset, .unset, .unset, .unset, .unset]) rfl ?_
        exact seg82_2101 (C := C) hw p0 p1 p2 p3 t_SEQUENCE t_NULL t_OCTET_STRING X S_SEQUENCE E_SEQUENCE F_SEQUENCE S_NULL E_NULL F_NULL S_OCTET_STRING E_OCTET_STRING F_OCTET_STRING
    · refine g_iconst C (z := (1 : Int32)) at_62 (pc' := 63) rfl rfl ?_
      refine g_goto C at_63 (by decide) (pc' := 67) (by decide) ?_
      refine g_istore C at_67 (pc' := 69) rfl (Ls' := #[.val (.int p0), .val (.int p1), .val (.int p2), .val (.int p3), .val (.int (2 : Int32)), .val (.int (1 : Int32)), .val (.int (1 : Int32)), .unset, .unset, .unset, .unset, .unset, .unset, .unset, .unset, .unset, .unset]) rfl ?_
      refine g_iloadN C at_69 (pc' := 70) rfl rfl ?_
      refine g_iconst C (z := (4 : Int32)) at_70 (pc' := 71) rfl rfl ?_
      refine g_iand C at_71 (pc' := 72) rfl ?_
      refine g_if_eq C at_72 (by decide) (pc' := 79) (by decide) (pcN := 75) rfl (fun q72 => ?_) (fun q72 => ?_)
      · refine g_iconst C (z := (0 : Int32)) at_79 (pc' := 80) rfl rfl ?_
        refine g_istore C at_80 (pc' := 82) rfl (Ls' := #[.val (.int p0), .val (.int p1), .val (.int p2), .val (.int p3), .val (.int (2 : Int32)), .val (.int (1 : Int32)), .val (.int (1 : Int32)), .val (.int (0 : Int32)), .unset, .unset, .unset, .unset, .unset, .unset, .unset, .unset, .unset]) rfl ?_
        exact seg82_2110 (C := C) hw p0 p1 p2 p3 t_SEQUENCE t_NULL t_OCTET_STRING X S_SEQUENCE E_SEQUENCE F_SEQUENCE S_NULL E_NULL F_NULL S_OCTET_STRING E_OCTET_STRING F_OCTET_STRING
      · refine g_iconst C (z := (1 : Int32)) at_75 (pc' := 76) rfl rfl ?_
        refine g_goto C at_76 (by decide) (pc' := 80) (by decide) ?_
        refine g_istore C at_80 (pc' := 82) rfl (Ls' := #[.val (.int p0), .val (.int p1), .val (.int p2), .val (.int p3), .val (.int (2 : Int32)), .val (.int (1 : Int32)), .val (.int (1 : Int32)), .val (.int (1 : Int32)), .unset, .unset, .unset, .unset, .unset, .unset, .unset, .unset, .unset]) rfl ?_
        exact seg82_2111 (C := C) hw p0 p1 p2 p3 t_SEQUENCE t_NULL t_OCTET_STRING X S_SEQUENCE E_SEQUENCE F_SEQUENCE S_NULL E_NULL F_NULL S_OCTET_STRING E_OCTET_STRING F_OCTET_STRING
theorem own_cnt (x : Int32) : (x.toUInt32 >>> ((8 : Int32) &&& 31).toUInt32).toInt32 % 3 = 0 ∨ (x.toUInt32 >>> ((8 : Int32) &&& 31).toUInt32).toInt32 % 3 = 1 ∨ (x.toUInt32 >>> ((8 : Int32) &&& 31).toUInt32).toInt32 % 3 = 2 := by
  have a := c_iushr x 8 8 (by decide) (by decide)
  have e : ((2 ^ 8 : Nat) : Int) = 256 := rfl
  rw [e] at a
  have r := rng32 x
  have b := (c_irem (x.toUInt32 >>> ((8 : Int32) &&& 31).toUInt32).toInt32 3 3 rfl).1 (by omega)
  have : ∀ k : Int32, (x.toUInt32 >>> ((8 : Int32) &&& 31).toUInt32).toInt32 % 3 = k ↔ ((x.toUInt32 >>> ((8 : Int32) &&& 31).toUInt32).toInt32 % 3).toInt = k.toInt := fun k => Int32.toInt_inj.symm
  simp only [this, show (0 : Int32).toInt = 0 from rfl, show (1 : Int32).toInt = 1 from rfl, show (2 : Int32).toInt = 2 from rfl]
  omega
set_option maxRecDepth 65536 in
set_option maxHeartbeats 40000000 in
theorem law0 {l : Launch} {Z : State} {a0 : Array Value} (hw : ∀ d ∈ tables_1, d.before a0 Z = true) {h0 : Heap} {n0 : Nat} (p0 p1 p2 p3 : Int32) (t_SEQUENCE t_NULL t_OCTET_STRING : Addr) (X : Old Z n0 h0) (S_SEQUENCE : Sta Z Z.heap "com/example/sigillum/sigillum/codec/DerTag" "SEQUENCE" "Lcom/example/sigillum/sigillum/codec/DerTag;" (.ref t_SEQUENCE)) (E_SEQUENCE : Exa Z h0 t_SEQUENCE "com/example/sigillum/sigillum/codec/DerTag") (F_SEQUENCE : Fld Z h0 t_SEQUENCE "com/example/sigillum/sigillum/codec/DerTag" "identifier" "I" (.int 48)) (S_NULL : Sta Z Z.heap "com/example/sigillum/sigillum/codec/DerTag" "NULL" "Lcom/example/sigillum/sigillum/codec/DerTag;" (.ref t_NULL)) (E_NULL : Exa Z h0 t_NULL "com/example/sigillum/sigillum/codec/DerTag") (F_NULL : Fld Z h0 t_NULL "com/example/sigillum/sigillum/codec/DerTag" "identifier" "I" (.int 5)) (S_OCTET_STRING : Sta Z Z.heap "com/example/sigillum/sigillum/codec/DerTag" "OCTET_STRING" "Lcom/example/sigillum/sigillum/codec/DerTag;" (.ref t_OCTET_STRING)) (E_OCTET_STRING : Exa Z h0 t_OCTET_STRING "com/example/sigillum/sigillum/codec/DerTag") (F_OCTET_STRING : Fld Z h0 t_OCTET_STRING "com/example/sigillum/sigillum/codec/DerTag" "identifier" "I" (.int 4)) :
    Met l Z x code maxLocals ret room_1 n0 h0 #[(.int p0), (.int p1), (.int p2), (.int p3)] (fun v _ => v = some (.int 1)) := by
  refine Met.intro (plainFor_of_name (by first | (simp [plainName, overriddenIn, x]; done) | decide +kernel)) (fun mM => (show entryFrame mM #[(.int p0), (.int p1), (.int p2), (.int p3)] maxLocals = mkF mM 0 #[.val (.int p0), .val (.int p1), .val (.int p2), .val (.int p3), .unset, .unset, .unset, .unset, .unset, .unset, .unset, .unset, .unset, .unset, .unset, .unset, .unset] [] from by first | rfl | (simp [entryFrame, mkF, argsToLocals, Value.category, maxLocals]; done))) (fun w Y C => ?_)
  have C : Cx w Z "com/example/sigillum/sigillum/codec/DerReaderHasMorePinLaw" code 17 (some .boolean) "law" room_1 n0 _ Y := C
  refine g_iloadN C at_0 (pc' := 1) rfl rfl ?_
  refine g_iconst C (z := (4 : Int32)) at_1 (pc' := 2) rfl rfl ?_
  refine g_iushr C at_2 (pc' := 3) rfl ?_
  refine g_bipush C (z := (7 : Int32)) at_3 (pc' := 5) rfl rfl ?_
  refine g_iand C at_5 (pc' := 6) rfl ?_
  refine g_if_ne C at_6 (by decide) (pc' := 35) (by decide) (pcN := 9) rfl (fun q6 => ?_) (fun q6 => ?_)
  · refine g_iloadN C at_35 (pc' := 36) rfl rfl ?_
    refine g_bipush C (z := (8 : Int32)) at_36 (pc' := 38) rfl rfl ?_
    refine g_iushr C at_38 (pc' := 39) rfl ?_
    refine g_iconst C (z := (3 : Int32)) at_39 (pc' := 40) rfl rfl ?_
    refine g_irem C at_40 (pc' := 41) rfl (by decide) ?_
    refine g_istore C at_41 (pc' := 43) rfl (Ls' := #[.val (.int p0), .val (.int p1), .val (.int p2), .val (.int p3), .val (.int (((p0.toUInt32 >>> ((8 : Int32) &&& 31).toUInt32).toInt32) % (3 : Int32))), .unset, .unset, .unset, .unset, .unset, .unset, .unset, .unset, .unset, .unset, .unset, .unset]) rfl ?_
    rcases own_cnt p0 with hk | hk | hk <;> rw [hk]
    · exact seg43_0 (C := C) hw p0 p1 p2 p3 t_SEQUENCE t_NULL t_OCTET_STRING X S_SEQUENCE E_SEQUENCE F_SEQUENCE S_NULL E_NULL F_NULL S_OCTET_STRING E_OCTET_STRING F_OCTET_STRING
    · exact seg43_1 (C := C) hw p0 p1 p2 p3 t_SEQUENCE t_NULL t_OCTET_STRING X S_SEQUENCE E_SEQUENCE F_SEQUENCE S_NULL E_NULL F_NULL S_OCTET_STRING E_OCTET_STRING F_OCTET_STRING
    · exact seg43_2 (C := C) hw p0 p1 p2 p3 t_SEQUENCE t_NULL t_OCTET_STRING X S_SEQUENCE E_SEQUENCE F_SEQUENCE S_NULL E_NULL F_NULL S_OCTET_STRING E_OCTET_STRING F_OCTET_STRING
  · refine g_new C (hw _ (List.mem_of_getElem? (i := 0) rfl)) (hw _ (List.mem_of_getElem? (i := 1) rfl)) (hw _ (List.mem_of_getElem? (i := 2) rfl)) at_9 (pc' := 12) rfl (k' := 1) (n' := 3) rfl rfl (by decide) (by decide) ?_
    intro h246 b246 E246 fb246 gb246 A246 D246
    have ne_t_SEQUENCE_b246 : t_SEQUENCE ≠ b246 := Nat.ne_of_lt (Nat.lt_of_lt_of_le E_SEQUENCE.lt fb246)
    have ne_t_NULL_b246 : t_NULL ≠ b246 := Nat.ne_of_lt (Nat.lt_of_lt_of_le E_NULL.lt fb246)
    have ne_t_OCTET_STRING_b246 : t_OCTET_STRING ≠ b246 := Nat.ne_of_lt (Nat.lt_of_lt_of_le E_OCTET_STRING.lt fb246)
    have X := X.ext E246
    have E_SEQUENCE := E_SEQUENCE.ext E246
    have F_SEQUENCE := F_SEQUENCE.ext E246
    have E_NULL := E_NULL.ext E246
    have F_NULL := F_NULL.ext E246
    have E_OCTET_STRING := E_OCTET_STRING.ext E246
    have F_OCTET_STRING := F_OCTET_STRING.ext E246
    have F246_der : Fld Z h246 b246 "com/example/sigillum/sigillum/codec/DerReader" "der" "[B" .null := D246 (Or.inr (hw _ (List.mem_of_getElem? (i := 23) rfl))) (ty := (.array .byte)) (by decide)
    have F246_position : Fld Z h246 b246 "com/example/sigillum/sigillum/codec/DerReader" "position" "I" (.int (0 : Int32)) := D246 (Or.inl (hw _ (List.mem_of_getElem? (i := 25) rfl))) (ty := .int) (by decide)
    have F246_end : Fld Z h246 b246 "com/example/sigillum/sigillum/codec/DerReader" "end" "I" (.int (0 : Int32)) := D246 (Or.inr (hw _ (List.mem_of_getElem? (i := 27) rfl))) (ty := .int) (by decide)
    refine g_dup C at_12 (pc' := 13) rfl rfl ?_
    refine g_iconst C (z := (0 : Int32)) at_13 (pc' := 14) rfl rfl ?_
    refine g_newarr C (ad := "[B") (cap := 0) (hw _ (List.mem_of_getElem? (i := 3) rfl)) at_14 (pc' := 16) rfl rfl (by decide) (by decide) (by decide) (k' := 2) (n' := 3) rfl rfl (by decide) (by decide) rfl ?_
    intro h247 b247 E247 fb247 gb247 A247
    have ne_t_SEQUENCE_b247 : t_SEQUENCE ≠ b247 := Nat.ne_of_lt (Nat.lt_of_lt_of_le E_SEQUENCE.lt fb247)
    have ne_t_NULL_b247 : t_NULL ≠ b247 := Nat.ne_of_lt (Nat.lt_of_lt_of_le E_NULL.lt fb247)
    have ne_t_OCTET_STRING_b247 : t_OCTET_STRING ≠ b247 := Nat.ne_of_lt (Nat.lt_of_lt_of_le E_OCTET_STRING.lt fb247)
    have ne_b246_b247 : b246 ≠ b247 := Nat.ne_of_lt (Nat.lt_of_lt_of_le A246.lt fb247)
    have X := X.ext E247
    have E_SEQUENCE := E_SEQUENCE.ext E247
    have F_SEQUENCE := F_SEQUENCE.ext E247
    have E_NULL := E_NULL.ext E247
    have F_NULL := F_NULL.ext E247
    have E_OCTET_STRING := E_OCTET_STRING.ext E247
    have F_OCTET_STRING := F_OCTET_STRING.ext E247
    have A246 := A246.ext E247
    have F246_der := F246_der.ext E247
    have F246_position := F246_position.ext E247
    have F246_end := F246_end.ext E247
    have A247 : Arf Z h247 b247 "[B" .byte (0 : Int32) (fun _ => (.int 0)) := A247
    refine g_special (rm := R_m_init1) (a := b246) C (y := (⟨"com/example/sigillum/sigillum/codec/DerReader", "<init>", "([B)V"⟩ : MethodName)) rfl (hw _ (List.mem_of_getElem? (i := 4) rfl)) (hw _ (List.mem_of_getElem? (i := 5) rfl)) (hw _ (List.mem_of_getElem? (i := 6) rfl)) (by decide) at_16 (pc' := 19) rfl (argsL := [(.ref b247)]) (rest := [(.ref b246)]) (lenOf pd_10 rfl) rfl (W := 1) (Nat.le_of_eq rfl) rfl (fun hn9 => Met.back (rm := R_m_init1) (m_init1 hw b246 b247 (0 : Int32) (fun _ => (.int 0)) ⟨A246, F246_der, F246_position, F246_end⟩ A247 (by decide) gb246) hn9 C.hZ (hw _ (List.mem_of_getElem? (i := 6) rfl)) (hw _ (List.mem_of_getElem? (i := 2) rfl)) (by decide) (by decide)) (k' := 3) (n' := 12) rfl rfl (by decide) (by decide) ?_
    rintro _ h248 ⟨rfl, Ki, t_b246, ft_b246, gt_b246, ⟨E_b246, F1_b246, F2_b246, F3_b246⟩, At_b246⟩
    have ne_t_SEQUENCE_t_b246 : t_SEQUENCE ≠ t_b246 := Nat.ne_of_lt (Nat.lt_of_lt_of_le E_SEQUENCE.lt ft_b246)
    have ne_t_NULL_t_b246 : t_NULL ≠ t_b246 := Nat.ne_of_lt (Nat.lt_of_lt_of_le E_NULL.lt ft_b246)
    have ne_t_OCTET_STRING_t_b246 : t_OCTET_STRING ≠ t_b246 := Nat.ne_of_lt (Nat.lt_of_lt_of_le E_OCTET_STRING.lt ft_b246)
    have ne_b246_t_b246 : b246 ≠ t_b246 := Nat.ne_of_lt (Nat.lt_of_lt_of_le A246.lt ft_b246)
    have ne_b247_t_b246 : b247 ≠ t_b246 := Nat.ne_of_lt (Nat.lt_of_lt_of_le A247.lt ft_b246)
    have X := X.keep Ki (allS gb246 all0)
    have E_SEQUENCE := E_SEQUENCE.keep Ki
    have F_SEQUENCE := F_SEQUENCE.keep Ki (ninS ne_t_SEQUENCE_b246 nin0)
    have E_NULL := E_NULL.keep Ki
    have F_NULL := F_NULL.keep Ki (ninS ne_t_NULL_b246 nin0)
    have E_OCTET_STRING := E_OCTET_STRING.keep Ki
    have F_OCTET_STRING := F_OCTET_STRING.keep Ki (ninS ne_t_OCTET_STRING_b246 nin0)
    have A246 := A246.keep Ki
    have A247 := A247.keep Ki (ninS (Ne.symm ne_b246_b247) nin0)
    show Go w l _ n0 _ h248 3 12 19 #[.val (.int p0), .val (.int p1), .val (.int p2), .val (.int p3), .unset, .unset, .unset, .unset, .unset, .unset, .unset, .unset, .unset, .unset, .unset, .unset, .unset] [(.ref b246)]
    refine g_astore C at_19 (pc' := 21) rfl rfl (Ls' := #[.val (.int p0), .val (.int p1), .val (.int p2), .val (.int p3), .val (.ref b246), .unset, .unset, .unset, .unset, .unset, .unset, .unset, .unset, .unset, .unset, .unset, .unset]) rfl ?_
    refine g_aload C at_21 (pc' := 23) rfl rfl rfl ?_
    refine g_virtual (rm := R_m_hasMore) (a := b246) C (y := (⟨"com/example/sigillum/sigillum/codec/DerReader", "hasMore", "()Z"⟩ : MethodName)) (y' := (⟨"com/example/sigillum/sigillum/codec/DerReader", "hasMore", "()Z"⟩ : MethodName)) (hw _ (List.mem_of_getElem? (i := 28) rfl)) (hw _ (List.mem_of_getElem? (i := 29) rfl)) (g_nf C (hw _ (List.mem_of_getElem? (i := 31) rfl))) (hw _ (List.mem_of_getElem? (i := 31) rfl)) (hw _ (List.mem_of_getElem? (i := 30) rfl)) (by decide) E_b246 at_23 (pc' := 26) rfl (argsL := []) (rest := []) (lenOf pd_1 rfl) rfl (W := 0) (Nat.le_of_eq rfl) rfl (fun hn9 => Met.back (rm := R_m_hasMore) (m_hasMore hw b246 (0 : Int32) (0 : Int32) F2_b246 F3_b246) hn9 C.hZ (hw _ (List.mem_of_getElem? (i := 32) rfl)) (hw _ (List.mem_of_getElem? (i := 2) rfl)) (by decide) (by decide)) (k' := 3) (n' := 12) rfl rfl (by decide) (by decide) ?_
    rintro _ _ ⟨rfl, rfl⟩
    show Go w l _ n0 _ h248 3 12 26 #[.val (.int p0), .val (.int p1), .val (.int p2), .val (.int p3), .val (.ref b246), .unset, .unset, .unset, .unset, .unset, .unset, .unset, .unset, .unset, .unset, .unset, .unset] [(.int (0 : Int32))]
    refine g_if_ne C at_26 (by decide) (pc' := 33) (by decide) (pcN := 29) rfl (fun q => absurd rfl q) (fun _ => ?_)
    refine g_iconst C (z := (1 : Int32)) at_29 (pc' := 30) rfl rfl ?_
    refine g_goto C at_30 (by decide) (pc' := 34) (by decide) ?_
    exact g_retN C (t := .boolean) rfl (by simp) at_34 rfl (by decide) (by decide)
set_option maxRecDepth 65536 in
set_option maxHeartbeats 40000000 in
theorem comes_1 {Post : Tables → Env → Array Value → State → Outcome → State → Prop} (hpost : ∀ tb e args s v u, (limb_1_1.after args s (.returned v) u = true ∧ limb_1_2.after args s (.returned v) u = true ∧ True) → FrameEnd s (.returned v) u (Jvm.fieldLocs frame_1_writes args s ++ Jvm.arrayLocs frame_1_arrays args s ++ Jvm.staticLocs frame_1_statics s) 24 128 → Post tb e args s (.returned v) u) :
    ArmFor flags0 classFile x code maxLocals ret World_1 tables_1 room_1 Calls_1 rest_1 Pre_1 Post := by
  intro l hfl _ _ p e ha hc hk s m args below hf hA hF happ hP
  obtain ⟨hcalls, hrest, hpre⟩ := hP
  obtain ⟨-, -, -, hnamed, -, -, -, hat⟩ := (Spec.applies_iff hf).mp happ
  obtain ⟨hg, hn⟩ := and_e (Cond.before_iff.mp (show (Jvm.Cond.and given_1 narrow_1).before args s = true from hpre))
  obtain ⟨g0, r0⟩ := and_e hg
  obtain ⟨g1, r1⟩ := and_e r0
  obtain ⟨g2, r2⟩ := and_e r1
  obtain ⟨g3, r3⟩ := and_e r2
  have g4 := r3
  obtain ⟨w0, w1, w2, w3, rfl⟩ : ∃ w0 w1 w2 w3 : Value, args = #[w0, w1, w2, w3] := by
    have hs : args.size = 4 := by simpa [Cond.value, given_1] using g0
    obtain ⟨L⟩ := args
    match L, hs with
    | [w0, w1, w2, w3], _ => exact ⟨w0, w1, w2, w3, rfl⟩
  have hw := fun d (hd : d ∈ tables_1) => atoms_spec (ws := Jvm.Cond.code x code maxLocals ret :: tables_1) hat d (List.mem_cons_of_mem _ hd)
  have hfit : Fit s := fun {y c} hc i hi => by
    obtain ⟨ha, rfl⟩ := Array.getElem?_eq_some_iff.mp hc
    have q := List.all_eq_true.mp ((Array.all_eq_true_iff_forall_mem.mp hF) _ (Array.getElem_mem ha)) i (List.mem_range.mpr hi)
    simpa [Array.getElem?_eq_getElem hi] using q
  obtain ⟨i0, ei0⟩ := is_v g1
  obtain rfl : w0 = (.int i0) := Option.some.inj ei0
  obtain ⟨i1, ei1⟩ := is_v g2
  obtain rfl : w1 = (.int i1) := Option.some.inj ei1
  obtain ⟨i2, ei2⟩ := is_v g3
  obtain rfl : w2 = (.int i2) := Option.some.inj ei2
  obtain ⟨i3, ei3⟩ := is_v g4
  obtain rfl : w3 = (.int i3) := Option.some.inj ei3
  obtain ⟨c0, u0⟩ := and_e hn
  obtain ⟨c1, u1⟩ := and_e u0
  obtain ⟨c2, u2⟩ := and_e u1
  obtain ⟨c3, u3⟩ := and_e u2
  obtain ⟨c4, u4⟩ := and_e u3
  have c5 := u4
  obtain ⟨t_SEQUENCE, ev_SEQUENCE⟩ := exa_v c0
  have S_SEQUENCE := Sta.start ev_SEQUENCE (Or.inr ⟨(hw _ (List.mem_of_getElem? (i := 39) rfl)), (hw _ (List.mem_of_getElem? (i := 40) rfl))⟩)
  have E_SEQUENCE := Exa.start ev_SEQUENCE c0
  have F_SEQUENCE_identifier := own_fld ev_SEQUENCE c1
  obtain ⟨t_NULL, ev_NULL⟩ := exa_v c2
  have S_NULL := Sta.start ev_NULL (Or.inr ⟨(hw _ (List.mem_of_getElem? (i := 39) rfl)), (hw _ (List.mem_of_getElem? (i := 67) rfl))⟩)
  have E_NULL := Exa.start ev_NULL c2
  have F_NULL_identifier := own_fld ev_NULL c3
  obtain ⟨t_OCTET_STRING, ev_OCTET_STRING⟩ := exa_v c4
  have S_OCTET_STRING := Sta.start ev_OCTET_STRING (Or.inr ⟨(hw _ (List.mem_of_getElem? (i := 39) rfl)), (hw _ (List.mem_of_getElem? (i := 96) rfl))⟩)
  have E_OCTET_STRING := Exa.start ev_OCTET_STRING c4
  have F_OCTET_STRING_identifier := own_fld ev_OCTET_STRING c5
  obtain ⟨n, o, h1, h2, h3, _, L, rfl, ⟨rfl, N, -⟩, hq⟩ := law0 (l := l) (Z := s) hw (h0 := s.heap) (n0 := s.heap.size) i0 i1 i2 i3 t_SEQUENCE t_NULL t_OCTET_STRING (Old.start s) S_SEQUENCE E_SEQUENCE F_SEQUENCE_identifier S_NULL E_NULL F_NULL_identifier S_OCTET_STRING E_OCTET_STRING F_OCTET_STRING_identifier (Nat.le_refl _) tables_1 p e ha hc hk s m _ below hf ((Spec.applies_iff_loose hf).mp happ).1 ⟨rfl, State.Warmed39.refl s, rfl⟩ trivial
  exact ⟨n, _, h1, h2, h3, hpost _ _ _ _ _ _ ⟨Cond.after_iff.mpr rfl, Cond.after_iff.mpr (eq_i res_at (Term.int_eval (1)) rfl), trivial⟩ ⟨hq.1, hq.2.1, (hq.2.2.sift fun y hy => Or.inr (N y hy)).mono (by decide) (by decide)⟩⟩
theorem main_1_1 : Claimed_1_1 := comes_1 fun _ _ _ _ _ _ h hF => ⟨h.1, hF⟩
theorem main_1_2 : Claimed_1_2 := comes_1 fun _ _ _ _ _ _ h hF => ⟨h.2.1, hF⟩
end Jvm.Pilot.@@N@@
namespace Jvm.Pilot.@@N@@
open Jvm Jvm.ClassFile Sem Op Lib Jvm.Free Jvm.Stand Jvm.Pilot.@@N@@.Jvm.D
/-! MADE BY PROGRAM (witnessworld.py) out of the Statement's table words and the real class files: 16 classes; the members and pool entries that the words name. The judged class is class 1, her method 1. -/
namespace start1
open Jvm.ClassFile
def u (s : String) : CpInfo := .utf8 (stringToUtf16 s)
/-- a pool by its gaps: so many unusable entries, then the entry; so many at the end -/
def gap : Nat → List CpInfo → List CpInfo
  | 0, r => r
  | n + 1, r => .unusable :: gap n r
def poolList (es : List (Nat × CpInfo)) (last : Nat) : List CpInfo := es.foldr (fun e r => gap e.1 (e.2 :: r)) (gap last [])
def pool (es : List (Nat × CpInfo)) (last : Nat) : Array CpInfo := ⟨poolList es last⟩
def fileOf (pool : Array CpInfo) (this : Nat) (attrs : Array Attribute := #[]) (ms : Array MethodInfo := #[]) (fl : Nat := 33) (sup : Nat := 0) (ifs : Array Nat := #[]) (fds : Array FieldInfo := #[]) : ClassFile where
  minorVersion := 0
  majorVersion := 65
  constantPool := pool
  accessFlags := fl
  thisClass := this
  superClass := sup
  interfaces := ifs
  fields := fds
  methods := ms
  attributes := attrs
def plain (name : String) (sup : Option ClassId) : Class where
  name := name
  kind := .ordinary
  loader := none
  accessFlags := 33
  super := sup
  interfaces := #[]
  cf := none
  fields := #[]
  methods := #[]
  instanceTypes := #[]
  staticTypes := #[]
  resolved := #[]
  callSites := []
  init := .initialized
  statics := none
  mirror := none

def pool0 : Array CpInfo := pool [(5, u "<init>"), (0, u "()V"), (1, .class_ 10), (1, u "java/lang/Object"), (85, u "clone"), (0, u "()Ljava/lang/Object;")] 26

def k0c0 : Code := { maxStack := 0, maxLocals := 1, code := object_method_1_code, exceptionTable := #[], attributes := #[] }
def k0m0 : Method := { name := "<init>", desc := "()V", sig := { parameters := [], returnType := none }, accessFlags := 1, code := some k0c0 }
def k0m1 : Method := { name := "clone", desc := "()Ljava/lang/Object;", sig := { parameters := [], returnType := some (.object "java/lang/Object") }, accessFlags := 260, code := none }
/-- java/lang/Object -/
def k0 : Class := { plain "java/lang/Object" none with
  accessFlags := 33
  interfaces := #[]
  cf := some (fileOf pool0 8 #[] #[{ accessFlags := 1, nameIndex := 5, descriptorIndex := 6, attributes := #[] }, { accessFlags := 260, nameIndex := 96, descriptorIndex := 97, attributes := #[] }] 33 0 #[] #[])
  fields := #[]
  methods := #[k0m0, k0m1]
  instanceTypes := #[]
  staticTypes := #[]
  resolved := Array.replicate 124 none
  statics := none }

def pool1 : Array CpInfo := pool [(2, .class_ 4), (1, u "java/lang/Object"), (0, u "<init>"), (0, u "()V"), (0, .class_ 8), (0, u "com/example/sigillum/sigillum/codec/DerReader"), (0, .methodref 7 10), (0, .nameAndType 5 11), (0, u "([B)V"), (0, .methodref 7 13), (0, .nameAndType 14 15), (0, u "hasMore"), (0, u "()Z"), (0, .methodref 17 18), (0, .class_ 19), (0, .nameAndType 20 21), (0, u "com/example/sigillum/sigillum/codec/DerReaderHasMorePinLaw"), (0, u "put"), (0, u "([BIZB)I"), (0, .methodref 7 23), (0, .nameAndType 24 25), (0, u "sequence"), (0, u "()Lcom/example/sigillum/sigillum/codec/DerReader;"), (0, .methodref 17 27), (0, .nameAndType 28 29), (0, u "read"), (0, u "(Lcom/example/sigillum/sigillum/codec/DerReader;Z)V"), (0, .methodref 7 31), (0, .nameAndType 32 33), (0, u "octetString"), (0, u "()[B"), (0, .methodref 7 35), (0, .nameAndType 36 6), (0, u "nullValue"), (2, u "law"), (0, u "(IIII)Z")] 8

def k1m0 : Method := { name := "<init>", desc := "()V", sig := { parameters := [], returnType := none }, accessFlags := 1, code := none }
def k1c1 : Code := { maxStack := 4, maxLocals := 17, code := code, exceptionTable := #[], attributes := #[] }
def k1m1 : Method := { name := "law", desc := "(IIII)Z", sig := { parameters := [.int, .int, .int, .int], returnType := some .boolean }, accessFlags := 9, code := some k1c1 }
def k1c2 : Code := { maxStack := 3, maxLocals := 4, code := method_3_code, exceptionTable := #[], attributes := #[] }
def k1m2 : Method := { name := "put", desc := "([BIZB)I", sig := { parameters := [(.array .byte), .int, .boolean, .byte], returnType := some .int }, accessFlags := 10, code := some k1c2 }
def k1c3 : Code := { maxStack := 1, maxLocals := 2, code := method_4_code, exceptionTable := #[], attributes := #[] }
def k1m3 : Method := { name := "read", desc := "(Lcom/example/sigillum/sigillum/codec/DerReader;Z)V", sig := { parameters := [(.object "com/example/sigillum/sigillum/codec/DerReader"), .boolean], returnType := none }, accessFlags := 10, code := some k1c3 }
/-- com/example/sigillum/sigillum/codec/DerReaderHasMorePinLaw -/
def k1 : Class := { plain "com/example/sigillum/sigillum/codec/DerReaderHasMorePinLaw" (some 0) with
  accessFlags := 49
  interfaces := #[]
  cf := some (fileOf pool1 17 #[] #[{ accessFlags := 1, nameIndex := 5, descriptorIndex := 6, attributes := #[] }, { accessFlags := 9, nameIndex := 39, descriptorIndex := 40, attributes := #[] }, { accessFlags := 10, nameIndex := 20, descriptorIndex := 21, attributes := #[] }, { accessFlags := 10, nameIndex := 28, descriptorIndex := 29, attributes := #[] }] 49 2 #[] #[])
  fields := #[]
  methods := #[k1m0, k1m1, k1m2, k1m3]
  instanceTypes := #[]
  staticTypes := #[]
  resolved := Array.replicate 49 none
  statics := none }

def pool2 : Array CpInfo := pool [(1, .methodref 2 3), (0, .class_ 4), (0, .nameAndType 5 6), (0, u "[B"), (0, u "clone"), (0, u "()Ljava/lang/Object;"), (0, .methodref 8 9), (0, .class_ 10), (0, .nameAndType 11 12), (0, u "com/example/sigillum/sigillum/codec/DerReader"), (0, u "<init>"), (0, u "([BII)V"), (0, .methodref 14 15), (0, .class_ 16), (0, .nameAndType 11 17), (0, u "java/lang/Object"), (0, u "()V"), (0, .fieldref 8 19), (0, .nameAndType 20 4), (0, u "der"), (0, .fieldref 8 22), (0, .nameAndType 23 24), (0, u "position"), (0, u "I"), (0, .fieldref 8 26), (0, .nameAndType 27 24), (0, u "end"), (2, u "([B)V"), (2, u "sequence"), (0, u "()Lcom/example/sigillum/sigillum/codec/DerReader;"), (3, .methodref 8 39), (0, .nameAndType 40 41), (0, u "hasMore"), (0, u "()Z"), (0, .fieldref 43 44), (0, .class_ 45), (0, .nameAndType 46 47), (0, u "com/example/sigillum/sigillum/codec/DerTag"), (0, u "SEQUENCE"), (0, u "Lcom/example/sigillum/sigillum/codec/DerTag;"), (0, .methodref 43 49), (0, .nameAndType 50 51), (0, u "identifies"), (0, u "(B)Z"), (0, .methodref 8 53), (0, .nameAndType 54 55), (0, u "header"), (0, u "(Lcom/example/sigillum/sigillum/codec/DerTag;)I"), (3, .methodref 8 60), (0, .nameAndType 61 62), (0, u "contents"), (0, u "(Lcom/example/sigillum/sigillum/codec/DerTag;)[B"), (11, .fieldref 43 75), (0, .nameAndType 76 47), (0, u "NULL"), (44, .methodref 122 123), (0, .class_ 124), (0, .nameAndType 125 126), (0, u "java/util/Arrays"), (0, u "copyOfRange"), (0, u "([BII)[B"), (0, .fieldref 43 128), (0, .nameAndType 129 47), (0, u "OCTET_STRING"), (19, .long 128), (9, u "MAX_LENGTH_OCTETS"), (2, u "LONG_LENGTH"), (0, u "Ljava/lang/String;"), (9, u "nullValue"), (2, u "()[B"), (0, u "octetString")] 21

def k2c0 : Code := { maxStack := 4, maxLocals := 2, code := prog_79_method_1_code, exceptionTable := #[], attributes := #[] }
def k2m0 : Method := { name := "<init>", desc := "([B)V", sig := { parameters := [(.array .byte)], returnType := none }, accessFlags := 1, code := some k2c0 }
def k2c1 : Code := { maxStack := 2, maxLocals := 4, code := prog_79_method_2_code, exceptionTable := #[], attributes := #[] }
def k2m1 : Method := { name := "<init>", desc := "([BII)V", sig := { parameters := [(.array .byte), .int, .int], returnType := none }, accessFlags := 2, code := some k2c1 }
def k2c2 : Code := { maxStack := 2, maxLocals := 1, code := prog_79_method_4_code, exceptionTable := #[], attributes := #[] }
def k2m2 : Method := { name := "hasMore", desc := "()Z", sig := { parameters := [], returnType := some .boolean }, accessFlags := 1, code := some k2c2 }
def k2c3 : Code := { maxStack := 6, maxLocals := 3, code := prog_79_method_6_code, exceptionTable := #[], attributes := #[] }
def k2m3 : Method := { name := "sequence", desc := "()Lcom/example/sigillum/sigillum/codec/DerReader;", sig := { parameters := [], returnType := some (.object "com/example/sigillum/sigillum/codec/DerReader") }, accessFlags := 1, code := some k2c3 }
def k2c4 : Code := { maxStack := 2, maxLocals := 2, code := prog_79_method_8_code, exceptionTable := #[], attributes := #[] }
def k2m4 : Method := { name := "nullValue", desc := "()V", sig := { parameters := [], returnType := none }, accessFlags := 1, code := some k2c4 }
def k2c5 : Code := { maxStack := 2, maxLocals := 1, code := prog_79_method_11_code, exceptionTable := #[], attributes := #[] }
def k2m5 : Method := { name := "octetString", desc := "()[B", sig := { parameters := [], returnType := some (.array .byte) }, accessFlags := 1, code := some k2c5 }
def k2c6 : Code := { maxStack := 4, maxLocals := 4, code := prog_79_method_13_code, exceptionTable := #[], attributes := #[] }
def k2m6 : Method := { name := "contents", desc := "(Lcom/example/sigillum/sigillum/codec/DerTag;)[B", sig := { parameters := [(.object "com/example/sigillum/sigillum/codec/DerTag")], returnType := some (.array .byte) }, accessFlags := 2, code := some k2c6 }
def k2c7 : Code := { maxStack := 7, maxLocals := 8, code := prog_79_method_14_code, exceptionTable := #[], attributes := #[] }
def k2m7 : Method := { name := "header", desc := "(Lcom/example/sigillum/sigillum/codec/DerTag;)I", sig := { parameters := [(.object "com/example/sigillum/sigillum/codec/DerTag")], returnType := some .int }, accessFlags := 2, code := some k2c7 }
/-- com/example/sigillum/sigillum/codec/DerReader -/
def k2 : Class := { plain "com/example/sigillum/sigillum/codec/DerReader" (some 0) with
  accessFlags := 49
  interfaces := #[]
  cf := some (fileOf pool2 8 #[] #[{ accessFlags := 1, nameIndex := 11, descriptorIndex := 30, attributes := #[] }, { accessFlags := 2, nameIndex := 11, descriptorIndex := 12, attributes := #[] }, { accessFlags := 1, nameIndex := 40, descriptorIndex := 41, attributes := #[] }, { accessFlags := 1, nameIndex := 33, descriptorIndex := 34, attributes := #[] }, { accessFlags := 1, nameIndex := 173, descriptorIndex := 17, attributes := #[] }, { accessFlags := 1, nameIndex := 177, descriptorIndex := 176, attributes := #[] }, { accessFlags := 2, nameIndex := 61, descriptorIndex := 62, attributes := #[] }, { accessFlags := 2, nameIndex := 54, descriptorIndex := 55, attributes := #[] }] 49 14 #[] #[{ accessFlags := 26, nameIndex := 159, descriptorIndex := 24, attributes := #[] }, { accessFlags := 26, nameIndex := 162, descriptorIndex := 163, attributes := #[] }, { accessFlags := 18, nameIndex := 20, descriptorIndex := 4, attributes := #[] }, { accessFlags := 18, nameIndex := 27, descriptorIndex := 24, attributes := #[] }, { accessFlags := 2, nameIndex := 23, descriptorIndex := 24, attributes := #[] }])
  fields := #[{ name := "MAX_LENGTH_OCTETS", type := .int, accessFlags := 26, slot := 0, constantValue := 0 }, { name := "LONG_LENGTH", type := (.object "java/lang/String"), accessFlags := 26, slot := 1, constantValue := 0 }, { name := "der", type := (.array .byte), accessFlags := 18, slot := 0, constantValue := 0 }, { name := "end", type := .int, accessFlags := 18, slot := 1, constantValue := 0 }, { name := "position", type := .int, accessFlags := 2, slot := 2, constantValue := 0 }]
  methods := #[k2m0, k2m1, k2m2, k2m3, k2m4, k2m5, k2m6, k2m7]
  instanceTypes := #[(.array .byte), .int, .int]
  staticTypes := #[.int, (.object "java/lang/String")]
  resolved := Array.replicate 199 none
  statics := none }

def pool3 : Array CpInfo := pool [(1, .class_ 2), (0, u "java/lang/Cloneable"), (0, .class_ 4), (0, u "java/lang/Object")] 2

/-- java/lang/Cloneable -/
def k3 : Class := { plain "java/lang/Cloneable" (some 0) with
  accessFlags := 1537
  interfaces := #[]
  cf := some (fileOf pool3 1 #[] #[] 1537 3 #[] #[])
  fields := #[]
  methods := #[]
  instanceTypes := #[]
  staticTypes := #[]
  resolved := Array.replicate 7 none
  statics := none }

def pool4 : Array CpInfo := pool [(1, .class_ 2), (0, u "java/lang/constant/Constable"), (0, .class_ 4), (0, u "java/lang/Object")] 6

/-- java/lang/constant/Constable -/
def k4 : Class := { plain "java/lang/constant/Constable" (some 0) with
  accessFlags := 1537
  interfaces := #[]
  cf := some (fileOf pool4 1 #[] #[] 1537 3 #[] #[])
  fields := #[]
  methods := #[]
  instanceTypes := #[]
  staticTypes := #[]
  resolved := Array.replicate 11 none
  statics := none }

def pool5 : Array CpInfo := pool [(1, .class_ 2), (0, u "java/lang/Comparable"), (0, .class_ 4), (0, u "java/lang/Object")] 7

/-- java/lang/Comparable -/
def k5 : Class := { plain "java/lang/Comparable" (some 0) with
  accessFlags := 1537
  interfaces := #[]
  cf := some (fileOf pool5 1 #[] #[] 1537 3 #[] #[])
  fields := #[]
  methods := #[]
  instanceTypes := #[]
  staticTypes := #[]
  resolved := Array.replicate 12 none
  statics := none }

def pool6 : Array CpInfo := pool [(1, .class_ 2), (0, u "java/io/Serializable"), (0, .class_ 4), (0, u "java/lang/Object")] 2

/-- java/io/Serializable -/
def k6 : Class := { plain "java/io/Serializable" (some 0) with
  accessFlags := 1537
  interfaces := #[]
  cf := some (fileOf pool6 1 #[] #[] 1537 3 #[] #[])
  fields := #[]
  methods := #[]
  instanceTypes := #[]
  staticTypes := #[]
  resolved := Array.replicate 7 none
  statics := none }

def pool7 : Array CpInfo := pool [(2, .class_ 4), (1, u "java/lang/Enum"), (0, u "name"), (0, u "Ljava/lang/String;"), (2, u "ordinal"), (0, u "I"), (1, .class_ 14), (1, u "java/lang/Object"), (4, u "hash"), (86, .class_ 108), (1, u "java/lang/Enum$EnumDesc"), (2, .class_ 112), (0, u "java/lang/constant/Constable"), (0, .class_ 114), (0, u "java/lang/Comparable"), (0, .class_ 116), (0, u "java/io/Serializable")] 87

/-- java/lang/Enum -/
def k7 : Class := { plain "java/lang/Enum" (some 0) with
  accessFlags := 1057
  interfaces := #[4, 5, 6]
  cf := some (fileOf pool7 2 #[.nestMembers #[106]] #[] 1057 12 #[111, 113, 115] #[{ accessFlags := 18, nameIndex := 5, descriptorIndex := 6, attributes := #[] }, { accessFlags := 18, nameIndex := 9, descriptorIndex := 10, attributes := #[] }, { accessFlags := 2, nameIndex := 19, descriptorIndex := 10, attributes := #[] }])
  fields := #[{ name := "name", type := (.object "java/lang/String"), accessFlags := 18, slot := 0, constantValue := 0 }, { name := "ordinal", type := .int, accessFlags := 18, slot := 1, constantValue := 0 }, { name := "hash", type := .int, accessFlags := 2, slot := 2, constantValue := 0 }]
  methods := #[]
  instanceTypes := #[(.object "java/lang/String"), .int, .int]
  staticTypes := #[]
  resolved := Array.replicate 204 none
  statics := none }

def pool8 : Array CpInfo := pool [(1, .class_ 2), (0, u "com/example/sigillum/sigillum/codec/DerTag"), (2, u "INTEGER"), (0, u "Lcom/example/sigillum/sigillum/codec/DerTag;"), (2, u "BIT_STRING"), (2, u "OCTET_STRING"), (2, u "NULL"), (2, u "OBJECT_IDENTIFIER"), (2, u "SEQUENCE"), (2, u "$VALUES"), (0, u "[Lcom/example/sigillum/sigillum/codec/DerTag;"), (6, .class_ 34), (1, u "java/lang/Enum"), (6, .fieldref 1 42), (0, .nameAndType 43 44), (0, u "identifier"), (0, u "I"), (2, u "asn1Name"), (0, u "Ljava/lang/String;"), (27, u "identifies"), (0, u "(B)Z")] 8

def k8c0 : Code := { maxStack := 2, maxLocals := 2, code := prog_81_method_5_code, exceptionTable := #[], attributes := #[] }
def k8m0 : Method := { name := "identifies", desc := "(B)Z", sig := { parameters := [.byte], returnType := some .boolean }, accessFlags := 0, code := some k8c0 }
/-- com/example/sigillum/sigillum/codec/DerTag -/
def k8 : Class := { plain "com/example/sigillum/sigillum/codec/DerTag" (some 7) with
  accessFlags := 16432
  interfaces := #[]
  cf := some (fileOf pool8 1 #[] #[{ accessFlags := 0, nameIndex := 76, descriptorIndex := 77, attributes := #[] }] 16432 32 #[] #[{ accessFlags := 16409, nameIndex := 5, descriptorIndex := 6, attributes := #[] }, { accessFlags := 16409, nameIndex := 9, descriptorIndex := 6, attributes := #[] }, { accessFlags := 16409, nameIndex := 12, descriptorIndex := 6, attributes := #[] }, { accessFlags := 16409, nameIndex := 15, descriptorIndex := 6, attributes := #[] }, { accessFlags := 16409, nameIndex := 18, descriptorIndex := 6, attributes := #[] }, { accessFlags := 16409, nameIndex := 21, descriptorIndex := 6, attributes := #[] }, { accessFlags := 18, nameIndex := 43, descriptorIndex := 44, attributes := #[] }, { accessFlags := 18, nameIndex := 47, descriptorIndex := 48, attributes := #[] }, { accessFlags := 4122, nameIndex := 24, descriptorIndex := 25, attributes := #[] }])
  fields := #[{ name := "INTEGER", type := (.object "com/example/sigillum/sigillum/codec/DerTag"), accessFlags := 16409, slot := 0, constantValue := 0 }, { name := "BIT_STRING", type := (.object "com/example/sigillum/sigillum/codec/DerTag"), accessFlags := 16409, slot := 1, constantValue := 0 }, { name := "OCTET_STRING", type := (.object "com/example/sigillum/sigillum/codec/DerTag"), accessFlags := 16409, slot := 2, constantValue := 0 }, { name := "NULL", type := (.object "com/example/sigillum/sigillum/codec/DerTag"), accessFlags := 16409, slot := 3, constantValue := 0 }, { name := "OBJECT_IDENTIFIER", type := (.object "com/example/sigillum/sigillum/codec/DerTag"), accessFlags := 16409, slot := 4, constantValue := 0 }, { name := "SEQUENCE", type := (.object "com/example/sigillum/sigillum/codec/DerTag"), accessFlags := 16409, slot := 5, constantValue := 0 }, { name := "identifier", type := .int, accessFlags := 18, slot := 3, constantValue := 0 }, { name := "asn1Name", type := (.object "java/lang/String"), accessFlags := 18, slot := 4, constantValue := 0 }, { name := "$VALUES", type := (.array (.object "com/example/sigillum/sigillum/codec/DerTag")), accessFlags := 4122, slot := 6, constantValue := 0 }]
  methods := #[k8m0]
  instanceTypes := #[(.object "java/lang/String"), .int, .int, .int, (.object "java/lang/String")]
  staticTypes := #[(.object "com/example/sigillum/sigillum/codec/DerTag"), (.object "com/example/sigillum/sigillum/codec/DerTag"), (.object "com/example/sigillum/sigillum/codec/DerTag"), (.object "com/example/sigillum/sigillum/codec/DerTag"), (.object "com/example/sigillum/sigillum/codec/DerTag"), (.object "com/example/sigillum/sigillum/codec/DerTag"), (.array (.object "com/example/sigillum/sigillum/codec/DerTag"))]
  resolved := Array.replicate 86 none
  statics := some 0 }

def pool9 : Array CpInfo := pool [(2, .class_ 4), (1, u "java/lang/Object"), (0, u "<init>"), (0, u "()V"), (7, .class_ 16), (1, u "java/util/Arrays"), (57, .class_ 76), (1, u "java/util/Arrays$NaturalOrder"), (36, .class_ 115), (1, u "java/util/Arrays$LegacyMergeSort"), (1, u "Z"), (21, u "copyOfRange"), (10, .methodref 151 152), (0, .class_ 153), (0, .nameAndType 154 155), (0, u "java/lang/System"), (0, u "arraycopy"), (0, u "(Ljava/lang/Object;ILjava/lang/Object;II)V"), (148, .methodref 305 306), (0, .class_ 307), (0, .nameAndType 308 309), (0, u "java/lang/Math"), (0, u "min"), (0, u "(II)I"), (29, .methodref 14 340), (0, .nameAndType 341 342), (0, u "copyOfRangeByte"), (0, u "([BII)[B"), (0, .methodref 14 344), (0, .nameAndType 345 346), (0, u "checkLength"), (0, u "(II)V"), (28, .class_ 376), (0, u "java/util/Arrays$ArrayList"), (68, u "$assertionsDisabled"), (269, u "MIN_ARRAY_SORT_GRAN"), (0, u "I"), (2, u "INSERTIONSORT_THRESHOLD"), (255, .class_ 976), (0, u "java/util/Arrays$ArrayItr")] 52

def k9m0 : Method := { name := "<init>", desc := "()V", sig := { parameters := [], returnType := none }, accessFlags := 2, code := none }
def k9c1 : Code := { maxStack := 4, maxLocals := 2, code := jdk_65_method_131_code, exceptionTable := #[], attributes := #[] }
def k9m1 : Method := { name := "checkLength", desc := "(II)V", sig := { parameters := [.int, .int], returnType := none }, accessFlags := 10, code := some k9c1 }
def k9c2 : Code := { maxStack := 3, maxLocals := 3, code := jdk_65_method_132_code, exceptionTable := #[], attributes := #[] }
def k9m2 : Method := { name := "copyOfRange", desc := "([BII)[B", sig := { parameters := [(.array .byte), .int, .int], returnType := some (.array .byte) }, accessFlags := 9, code := some k9c2 }
def k9c3 : Code := { maxStack := 6, maxLocals := 5, code := jdk_65_method_133_code, exceptionTable := #[], attributes := #[] }
def k9m3 : Method := { name := "copyOfRangeByte", desc := "([BII)[B", sig := { parameters := [(.array .byte), .int, .int], returnType := some (.array .byte) }, accessFlags := 10, code := some k9c3 }
/-- java/util/Arrays -/
def k9 : Class := { plain "java/util/Arrays" (some 0) with
  accessFlags := 49
  interfaces := #[]
  cf := some (fileOf pool9 14 #[.nestMembers #[975, 375, 113, 74]] #[{ accessFlags := 2, nameIndex := 5, descriptorIndex := 6, attributes := #[] }, { accessFlags := 10, nameIndex := 345, descriptorIndex := 346, attributes := #[] }, { accessFlags := 9, nameIndex := 139, descriptorIndex := 342, attributes := #[] }, { accessFlags := 10, nameIndex := 341, descriptorIndex := 342, attributes := #[] }] 49 2 #[] #[{ accessFlags := 26, nameIndex := 715, descriptorIndex := 716, attributes := #[] }, { accessFlags := 26, nameIndex := 719, descriptorIndex := 716, attributes := #[] }, { accessFlags := 4120, nameIndex := 445, descriptorIndex := 117, attributes := #[] }])
  fields := #[{ name := "MIN_ARRAY_SORT_GRAN", type := .int, accessFlags := 26, slot := 0, constantValue := 0 }, { name := "INSERTIONSORT_THRESHOLD", type := .int, accessFlags := 26, slot := 1, constantValue := 0 }, { name := "$assertionsDisabled", type := .boolean, accessFlags := 4120, slot := 2, constantValue := 0 }]
  methods := #[k9m0, k9m1, k9m2, k9m3]
  instanceTypes := #[]
  staticTypes := #[.int, .int, .boolean]
  resolved := Array.replicate 1029 none
  statics := none }

def pool10 : Array CpInfo := pool [(1, .class_ 2), (0, u "java/lang/Math"), (1, .class_ 6), (1, u "java/lang/Object"), (0, u "<init>"), (0, u "()V"), (89, .class_ 100), (1, u "java/lang/Math$RandomNumberGeneratorHolder"), (71, u "negativeZeroFloatBits"), (0, u "J"), (2, u "negativeZeroDoubleBits"), (24, u "min"), (43, u "$assertionsDisabled"), (0, u "Z"), (88, u "(II)I"), (2, u "twoToTheDoubleScaleDown"), (0, u "D"), (4, u "twoToTheDoubleScaleUp"), (9, u "E"), (3, u "PI"), (2, u "TAU"), (2, u "DEGREES_TO_RADIANS"), (0, u "RADIANS_TO_DEGREES")] 94

def k10m0 : Method := { name := "<init>", desc := "()V", sig := { parameters := [], returnType := none }, accessFlags := 2, code := none }
def k10c1 : Code := { maxStack := 2, maxLocals := 2, code := jdk_29_method_69_code, exceptionTable := #[], attributes := #[] }
def k10m1 : Method := { name := "min", desc := "(II)I", sig := { parameters := [.int, .int], returnType := some .int }, accessFlags := 9, code := some k10c1 }
/-- java/lang/Math -/
def k10 : Class := { plain "java/lang/Math" (some 0) with
  accessFlags := 49
  interfaces := #[]
  cf := some (fileOf pool10 1 #[.nestMembers #[98]] #[{ accessFlags := 2, nameIndex := 7, descriptorIndex := 8, attributes := #[] }, { accessFlags := 9, nameIndex := 201, descriptorIndex := 335, attributes := #[] }] 49 4 #[] #[{ accessFlags := 25, nameIndex := 354, descriptorIndex := 339, attributes := #[] }, { accessFlags := 25, nameIndex := 358, descriptorIndex := 339, attributes := #[] }, { accessFlags := 25, nameIndex := 361, descriptorIndex := 339, attributes := #[] }, { accessFlags := 26, nameIndex := 364, descriptorIndex := 339, attributes := #[] }, { accessFlags := 26, nameIndex := 365, descriptorIndex := 339, attributes := #[] }, { accessFlags := 26, nameIndex := 172, descriptorIndex := 173, attributes := #[] }, { accessFlags := 26, nameIndex := 176, descriptorIndex := 173, attributes := #[] }, { accessFlags := 8, nameIndex := 344, descriptorIndex := 339, attributes := #[] }, { accessFlags := 8, nameIndex := 338, descriptorIndex := 339, attributes := #[] }, { accessFlags := 4120, nameIndex := 245, descriptorIndex := 246, attributes := #[] }])
  fields := #[{ name := "E", type := .double, accessFlags := 25, slot := 0, constantValue := 0 }, { name := "PI", type := .double, accessFlags := 25, slot := 1, constantValue := 0 }, { name := "TAU", type := .double, accessFlags := 25, slot := 2, constantValue := 0 }, { name := "DEGREES_TO_RADIANS", type := .double, accessFlags := 26, slot := 3, constantValue := 0 }, { name := "RADIANS_TO_DEGREES", type := .double, accessFlags := 26, slot := 4, constantValue := 0 }, { name := "negativeZeroFloatBits", type := .long, accessFlags := 26, slot := 5, constantValue := 0 }, { name := "negativeZeroDoubleBits", type := .long, accessFlags := 26, slot := 6, constantValue := 0 }, { name := "twoToTheDoubleScaleUp", type := .double, accessFlags := 8, slot := 7, constantValue := 0 }, { name := "twoToTheDoubleScaleDown", type := .double, accessFlags := 8, slot := 8, constantValue := 0 }, { name := "$assertionsDisabled", type := .boolean, accessFlags := 4120, slot := 9, constantValue := 0 }]
  methods := #[k10m0, k10m1]
  instanceTypes := #[]
  staticTypes := #[.double, .double, .double, .double, .double, .long, .long, .double, .double, .boolean]
  resolved := Array.replicate 460 none
  statics := none }

def pool11 : Array CpInfo := pool [(2, .class_ 4), (1, u "java/lang/Object"), (0, u "<init>"), (0, u "()V"), (1, .class_ 10), (1, u "java/lang/System"), (0, u "allowSecurityManager"), (0, u "I"), (16, u "cons"), (0, u "Ljava/io/Console;"), (77, .class_ 110), (1, u "java/lang/System$CallersHolder"), (43, u "initialErrStream"), (0, u "Ljava/io/PrintStream;"), (19, u "security"), (0, u "Ljava/lang/SecurityManager;"), (31, .class_ 209), (0, u "java/lang/System$1"), (7, u "props"), (0, u "Ljava/util/Properties;"), (2, u "lineSeparator"), (0, u "Ljava/lang/String;"), (96, .class_ 321), (1, u "java/lang/System$LoggerFinder"), (5, .class_ 328), (0, u "java/lang/System$Logger"), (67, u "err"), (2, u "out"), (91, u "notSupportedJnuEncoding"), (15, u "in"), (17, u "initialIn"), (0, u "Ljava/io/InputStream;"), (35, u "bootLayer"), (0, u "Ljava/lang/ModuleLayer;"), (99, .class_ 664), (0, u "java/lang/System$2"), (9, u "NEVER"), (2, u "MAYBE"), (49, u "arraycopy"), (0, u "(Ljava/lang/Object;ILjava/lang/Object;II)V"), (72, .class_ 802), (0, u "java/lang/System$Logger$Level")] 31

def k11m0 : Method := { name := "<init>", desc := "()V", sig := { parameters := [], returnType := none }, accessFlags := 2, code := none }
def k11m1 : Method := { name := "arraycopy", desc := "(Ljava/lang/Object;ILjava/lang/Object;II)V", sig := { parameters := [(.object "java/lang/Object"), .int, (.object "java/lang/Object"), .int, .int], returnType := none }, accessFlags := 265, code := none }
/-- java/lang/System -/
def k11 : Class := { plain "java/lang/System" (some 0) with
  accessFlags := 49
  interfaces := #[]
  cf := some (fileOf pool11 8 #[.nestMembers #[319, 327, 801, 108, 663, 208]] #[{ accessFlags := 2, nameIndex := 5, descriptorIndex := 6, attributes := #[] }, { accessFlags := 265, nameIndex := 727, descriptorIndex := 728, attributes := #[] }] 49 2 #[] #[{ accessFlags := 25, nameIndex := 507, descriptorIndex := 526, attributes := #[] }, { accessFlags := 25, nameIndex := 399, descriptorIndex := 155, attributes := #[] }, { accessFlags := 25, nameIndex := 396, descriptorIndex := 155, attributes := #[] }, { accessFlags := 10, nameIndex := 525, descriptorIndex := 526, attributes := #[] }, { accessFlags := 26, nameIndex := 674, descriptorIndex := 12, attributes := #[] }, { accessFlags := 26, nameIndex := 677, descriptorIndex := 12, attributes := #[] }, { accessFlags := 10, nameIndex := 11, descriptorIndex := 12, attributes := #[] }, { accessFlags := 74, nameIndex := 175, descriptorIndex := 176, attributes := #[] }, { accessFlags := 10, nameIndex := 491, descriptorIndex := 222, attributes := #[] }, { accessFlags := 74, nameIndex := 29, descriptorIndex := 30, attributes := #[] }, { accessFlags := 74, nameIndex := 154, descriptorIndex := 155, attributes := #[] }, { accessFlags := 10, nameIndex := 217, descriptorIndex := 218, attributes := #[] }, { accessFlags := 10, nameIndex := 221, descriptorIndex := 222, attributes := #[] }, { accessFlags := 8, nameIndex := 562, descriptorIndex := 563, attributes := #[] }])
  fields := #[{ name := "in", type := (.object "java/io/InputStream"), accessFlags := 25, slot := 0, constantValue := 0 }, { name := "out", type := (.object "java/io/PrintStream"), accessFlags := 25, slot := 1, constantValue := 0 }, { name := "err", type := (.object "java/io/PrintStream"), accessFlags := 25, slot := 2, constantValue := 0 }, { name := "initialIn", type := (.object "java/io/InputStream"), accessFlags := 10, slot := 3, constantValue := 0 }, { name := "NEVER", type := .int, accessFlags := 26, slot := 4, constantValue := 0 }, { name := "MAYBE", type := .int, accessFlags := 26, slot := 5, constantValue := 0 }, { name := "allowSecurityManager", type := .int, accessFlags := 10, slot := 6, constantValue := 0 }, { name := "security", type := (.object "java/lang/SecurityManager"), accessFlags := 74, slot := 7, constantValue := 0 }, { name := "notSupportedJnuEncoding", type := (.object "java/lang/String"), accessFlags := 10, slot := 8, constantValue := 0 }, { name := "cons", type := (.object "java/io/Console"), accessFlags := 74, slot := 9, constantValue := 0 }, { name := "initialErrStream", type := (.object "java/io/PrintStream"), accessFlags := 74, slot := 10, constantValue := 0 }, { name := "props", type := (.object "java/util/Properties"), accessFlags := 10, slot := 11, constantValue := 0 }, { name := "lineSeparator", type := (.object "java/lang/String"), accessFlags := 10, slot := 12, constantValue := 0 }, { name := "bootLayer", type := (.object "java/lang/ModuleLayer"), accessFlags := 8, slot := 13, constantValue := 0 }]
  methods := #[k11m0, k11m1]
  instanceTypes := #[]
  staticTypes := #[(.object "java/io/InputStream"), (.object "java/io/PrintStream"), (.object "java/io/PrintStream"), (.object "java/io/InputStream"), .int, .int, .int, (.object "java/lang/SecurityManager"), (.object "java/lang/String"), (.object "java/io/Console"), (.object "java/io/PrintStream"), (.object "java/util/Properties"), (.object "java/lang/String"), (.object "java/lang/ModuleLayer")]
  resolved := Array.replicate 834 none
  statics := none }

/-- the primitive byte -/
def k12 : Class := { plain "byte" none with kind := .primitive 'B', accessFlags := 0x411 }
/-- [B -/
def k13 : Class := { plain "[B" (some 0) with kind := .array 12 .byte, interfaces := #[3, 6], accessFlags := 1041 }

/-- the primitive int -/
def k14 : Class := { plain "int" none with kind := .primitive 'I', accessFlags := 0x411 }
/-- [I -/
def k15 : Class := { plain "[I" (some 0) with kind := .array 14 .int, interfaces := #[3, 6], accessFlags := 1041 }

def heap : Heap := #[{ cls := 8, slots := #[.null, .null, .ref 3, .ref 2, .null, .ref 1, .null], vm := .statics 8 },
  { cls := 8, slots := #[.null, .int 0, .int 0, .int 48, .null], vm := .none },
  { cls := 8, slots := #[.null, .int 0, .int 0, .int 5, .null], vm := .none },
  { cls := 8, slots := #[.null, .int 0, .int 0, .int 4, .null], vm := .none }]
def classes : Array Class := #[k0, k1, k2, k3, k4, k5, k6, k7, k8, k9, k10, k11, k12, k13, k14, k15]
def interned : List (Array UInt16 × Addr) := []
def slotsUsed : Nat := 22
def theMethod : MethodId := ⟨1, 1⟩
def args0 : Array Value := #[.int 1815, .int 3, .int 0, .int 9]
def aboutOver (below : List Frame) : State where
  vm := { classes := classes, interned := interned.toArray }
  heap := heap
  slotsUsed := slotsUsed
  threads := #[{ frames := .invoking theMethod args0 :: below }]
def below0 : List Frame := [.native { method := ⟨0, 0⟩, args := #[] }]
def about1 : State := aboutOver below0
def p0 : Program := .bare "" "" ""
def e0 : Env := launch0.env 0 0 0
theorem w_frames : about1.frames = Frame.invoking theMethod args0 :: below0 := rfl
set_option maxRecDepth 65536 in
theorem w_args : argsFit about1.vm theMethod args0 = true := by decide +kernel
set_option maxRecDepth 65536 in
theorem w_heap : heapFits about1 = true := by decide +kernel
set_option maxRecDepth 65536 in
theorem w_runnable : about1.curStatus? = some .runnable := by decide +kernel
set_option maxRecDepth 65536 in
theorem w_alone : about1.alone = true := by decide +kernel
set_option maxRecDepth 65536 in
theorem w_named : about1.methodNamed? x = some theMethod := by decide +kernel
set_option maxRecDepth 65536 in
theorem w_hears : about1.hears theMethod below0 = true := by decide +kernel
set_option maxRecDepth 65536 in
theorem w_ripe : about1.ripe theMethod args0 below0 = true := by decide +kernel
theorem w_running : about1.status = .running := rfl
set_option maxRecDepth 65536 in
theorem w_room : about1.hasRoom e0.platform room_1 = true :=
  launch0.hasRoom_least _ room_1 (by decide +kernel) (by decide +kernel) (by decide +kernel) (by decide +kernel) (by decide +kernel) (by decide +kernel)
theorem allAtoms_all (ts : List Jvm.Cond) (a : Array Jvm.Value) (st : Jvm.State) : (allAtoms ts).before a st = ts.all (fun c => c.before a st) := by
  induction ts with
  | nil => rfl
  | cons c t ih =>
    show (Jvm.Cond.and c (allAtoms t)).before a st = _
    rw [Jvm.Cond.before_and, ih, List.all_cons]
def words1 : List Jvm.Cond := Jvm.Cond.code x code maxLocals ret :: tables_1
/-- a 'code' word, met by the world's own term for the bytes: nothing is compared byte by byte -/
theorem code_word {y : MethodName} {bytes : ByteArray} {mx : Nat} {rt : Option FieldType} {a : Array Value} {s : State} {m : MethodId} {meth : Method} {c : Code} (h1 : s.methodNamed? y = some m) (h2 : s.vm.method? m = some meth) (h3 : meth.code = some c) (h4 : c.code = bytes)
    (h5 : (c.maxLocals == mx && c.exceptionTable.isEmpty && decide (c.maxStack ≤ mostOperands) && decide (meth.sig.returnType = rt) && !meth.locks && decide (parseMethodDescriptor y.desc = some meth.sig)) = true) : (Jvm.Cond.code y bytes mx rt).before a s = true := by
  simp only [Bool.and_eq_true, beq_iff_eq, Bool.not_eq_true', decide_eq_true_eq] at h5
  obtain ⟨⟨⟨⟨⟨g1, g2⟩, g3⟩, g4⟩, g5⟩, g6⟩ := h5
  simp [Cond.before, Cond.holds, Cond.value, h1, h2, h3, h4, g1, g2, g3, g4, g5, g6]
def isCode : Jvm.Cond → Bool
  | .code _ _ _ _ => true
  | _ => false
theorem all_split {L : List Jvm.Cond} {P : Jvm.Cond → Bool} (h1 : L.all (fun c => isCode c || P c) = true) (h2 : ∀ c ∈ L.filter isCode, P c = true) : L.all P = true := by
  refine List.all_eq_true.mpr fun c hc => ?_
  have h := List.all_eq_true.mp h1 c hc
  rcases Bool.eq_false_or_eq_true (isCode c) with hi | hi
  · exact h2 c (List.mem_filter.mpr ⟨hc, hi⟩)
  · simpa [hi] using h
set_option maxRecDepth 65536 in
theorem w_c0 : (Jvm.Cond.code x code maxLocals ret).before args0 about1 = true := code_word (m := ⟨1, 1⟩) (meth := k1m1) (c := k1c1) (by decide +kernel) rfl rfl rfl (by decide +kernel)
set_option maxRecDepth 65536 in
theorem w_c1 : (Jvm.Cond.code ({ cls := "com/example/sigillum/sigillum/codec/DerReader", name := "<init>", desc := "([B)V" } : Jvm.MethodName) prog_79_method_1_code (2 : Nat) (Option.none : Option Jvm.ClassFile.FieldType)).before args0 about1 = true := code_word (m := ⟨2, 0⟩) (meth := k2m0) (c := k2c0) (by decide +kernel) rfl rfl rfl (by decide +kernel)
set_option maxRecDepth 65536 in
theorem w_c2 : (Jvm.Cond.code ({ cls := "com/example/sigillum/sigillum/codec/DerReader", name := "<init>", desc := "([BII)V" } : Jvm.MethodName) prog_79_method_2_code (4 : Nat) (Option.none : Option Jvm.ClassFile.FieldType)).before args0 about1 = true := code_word (m := ⟨2, 1⟩) (meth := k2m1) (c := k2c1) (by decide +kernel) rfl rfl rfl (by decide +kernel)
set_option maxRecDepth 65536 in
theorem w_c3 : (Jvm.Cond.code ({ cls := "java/lang/Object", name := "<init>", desc := "()V" } : Jvm.MethodName) object_method_1_code (1 : Nat) (Option.none : Option Jvm.ClassFile.FieldType)).before args0 about1 = true := code_word (m := ⟨0, 0⟩) (meth := k0m0) (c := k0c0) (by decide +kernel) rfl rfl rfl (by decide +kernel)
set_option maxRecDepth 65536 in
theorem w_c4 : (Jvm.Cond.code ({ cls := "com/example/sigillum/sigillum/codec/DerReader", name := "hasMore", desc := "()Z" } : Jvm.MethodName) prog_79_method_4_code (1 : Nat) (Option.some Jvm.ClassFile.FieldType.boolean)).before args0 about1 = true := code_word (m := ⟨2, 2⟩) (meth := k2m2) (c := k2c2) (by decide +kernel) rfl rfl rfl (by decide +kernel)
set_option maxRecDepth 65536 in
theorem w_c5 : (Jvm.Cond.code ({ cls := "com/example/sigillum/sigillum/codec/DerReader", name := "sequence", desc := "()Lcom/example/sigillum/sigillum/codec/DerReader;" } : Jvm.MethodName) prog_79_method_6_code (3 : Nat) (Option.some (Jvm.ClassFile.FieldType.object "com/example/sigillum/sigillum/codec/DerReader"))).before args0 about1 = true := code_word (m := ⟨2, 3⟩) (meth := k2m3) (c := k2c3) (by decide +kernel) rfl rfl rfl (by decide +kernel)
set_option maxRecDepth 65536 in
theorem w_c6 : (Jvm.Cond.code ({ cls := "com/example/sigillum/sigillum/codec/DerReader", name := "header", desc := "(Lcom/example/sigillum/sigillum/codec/DerTag;)I" } : Jvm.MethodName) prog_79_method_14_code (8 : Nat) (Option.some Jvm.ClassFile.FieldType.int)).before args0 about1 = true := code_word (m := ⟨2, 7⟩) (meth := k2m7) (c := k2c7) (by decide +kernel) rfl rfl rfl (by decide +kernel)
set_option maxRecDepth 65536 in
theorem w_c7 : (Jvm.Cond.code ({ cls := "com/example/sigillum/sigillum/codec/DerTag", name := "identifies", desc := "(B)Z" } : Jvm.MethodName) prog_81_method_5_code (2 : Nat) (Option.some Jvm.ClassFile.FieldType.boolean)).before args0 about1 = true := code_word (m := ⟨8, 0⟩) (meth := k8m0) (c := k8c0) (by decide +kernel) rfl rfl rfl (by decide +kernel)
set_option maxRecDepth 65536 in
theorem w_c8 : (Jvm.Cond.code ({ cls := "com/example/sigillum/sigillum/codec/DerReaderHasMorePinLaw", name := "put", desc := "([BIZB)I" } : Jvm.MethodName) method_3_code (4 : Nat) (Option.some Jvm.ClassFile.FieldType.int)).before args0 about1 = true := code_word (m := ⟨1, 2⟩) (meth := k1m2) (c := k1c2) (by decide +kernel) rfl rfl rfl (by decide +kernel)
set_option maxRecDepth 65536 in
theorem w_c9 : (Jvm.Cond.code ({ cls := "com/example/sigillum/sigillum/codec/DerReaderHasMorePinLaw", name := "read", desc := "(Lcom/example/sigillum/sigillum/codec/DerReader;Z)V" } : Jvm.MethodName) method_4_code (2 : Nat) (Option.none : Option Jvm.ClassFile.FieldType)).before args0 about1 = true := code_word (m := ⟨1, 3⟩) (meth := k1m3) (c := k1c3) (by decide +kernel) rfl rfl rfl (by decide +kernel)
set_option maxRecDepth 65536 in
theorem w_c10 : (Jvm.Cond.code ({ cls := "com/example/sigillum/sigillum/codec/DerReader", name := "nullValue", desc := "()V" } : Jvm.MethodName) prog_79_method_8_code (2 : Nat) (Option.none : Option Jvm.ClassFile.FieldType)).before args0 about1 = true := code_word (m := ⟨2, 4⟩) (meth := k2m4) (c := k2c4) (by decide +kernel) rfl rfl rfl (by decide +kernel)
set_option maxRecDepth 65536 in
theorem w_c11 : (Jvm.Cond.code ({ cls := "com/example/sigillum/sigillum/codec/DerReader", name := "contents", desc := "(Lcom/example/sigillum/sigillum/codec/DerTag;)[B" } : Jvm.MethodName) prog_79_method_13_code (4 : Nat) (Option.some (Jvm.ClassFile.FieldType.array Jvm.ClassFile.FieldType.byte))).before args0 about1 = true := code_word (m := ⟨2, 6⟩) (meth := k2m6) (c := k2c6) (by decide +kernel) rfl rfl rfl (by decide +kernel)
set_option maxRecDepth 65536 in
theorem w_c12 : (Jvm.Cond.code ({ cls := "java/util/Arrays", name := "copyOfRange", desc := "([BII)[B" } : Jvm.MethodName) jdk_65_method_132_code (3 : Nat) (Option.some (Jvm.ClassFile.FieldType.array Jvm.ClassFile.FieldType.byte))).before args0 about1 = true := code_word (m := ⟨9, 2⟩) (meth := k9m2) (c := k9c2) (by decide +kernel) rfl rfl rfl (by decide +kernel)
set_option maxRecDepth 65536 in
theorem w_c13 : (Jvm.Cond.code ({ cls := "java/util/Arrays", name := "copyOfRangeByte", desc := "([BII)[B" } : Jvm.MethodName) jdk_65_method_133_code (5 : Nat) (Option.some (Jvm.ClassFile.FieldType.array Jvm.ClassFile.FieldType.byte))).before args0 about1 = true := code_word (m := ⟨9, 3⟩) (meth := k9m3) (c := k9c3) (by decide +kernel) rfl rfl rfl (by decide +kernel)
set_option maxRecDepth 65536 in
theorem w_c14 : (Jvm.Cond.code ({ cls := "java/util/Arrays", name := "checkLength", desc := "(II)V" } : Jvm.MethodName) jdk_65_method_131_code (2 : Nat) (Option.none : Option Jvm.ClassFile.FieldType)).before args0 about1 = true := code_word (m := ⟨9, 1⟩) (meth := k9m1) (c := k9c1) (by decide +kernel) rfl rfl rfl (by decide +kernel)
set_option maxRecDepth 65536 in
theorem w_c15 : (Jvm.Cond.code ({ cls := "java/lang/Math", name := "min", desc := "(II)I" } : Jvm.MethodName) jdk_29_method_69_code (2 : Nat) (Option.some Jvm.ClassFile.FieldType.int)).before args0 about1 = true := code_word (m := ⟨10, 1⟩) (meth := k10m1) (c := k10c1) (by decide +kernel) rfl rfl rfl (by decide +kernel)
set_option maxRecDepth 65536 in
theorem w_c16 : (Jvm.Cond.code ({ cls := "com/example/sigillum/sigillum/codec/DerReader", name := "octetString", desc := "()[B" } : Jvm.MethodName) prog_79_method_11_code (1 : Nat) (Option.some (Jvm.ClassFile.FieldType.array Jvm.ClassFile.FieldType.byte))).before args0 about1 = true := code_word (m := ⟨2, 5⟩) (meth := k2m5) (c := k2c5) (by decide +kernel) rfl rfl rfl (by decide +kernel)
def codes1 : List Jvm.Cond := [Jvm.Cond.code x code maxLocals ret, Jvm.Cond.code ({ cls := "com/example/sigillum/sigillum/codec/DerReader", name := "<init>", desc := "([B)V" } : Jvm.MethodName) prog_79_method_1_code (2 : Nat) (Option.none : Option Jvm.ClassFile.FieldType), Jvm.Cond.code ({ cls := "com/example/sigillum/sigillum/codec/DerReader", name := "<init>", desc := "([BII)V" } : Jvm.MethodName) prog_79_method_2_code (4 : Nat) (Option.none : Option Jvm.ClassFile.FieldType), Jvm.Cond.code ({ cls := "java/lang/Object", name := "<init>", desc := "()V" } : Jvm.MethodName) object_method_1_code (1 : Nat) (Option.none : Option Jvm.ClassFile.FieldType), Jvm.Cond.code ({ cls := "com/example/sigillum/sigillum/codec/DerReader", name := "hasMore", desc := "()Z" } : Jvm.MethodName) prog_79_method_4_code (1 : Nat) (Option.some Jvm.ClassFile.FieldType.boolean), Jvm.Cond.code ({ cls := "com/example/sigillum/sigillum/codec/DerReader", name := "sequence", desc := "()Lcom/example/sigillum/sigillum/codec/DerReader;" } : Jvm.MethodName) prog_79_method_6_code (3 : Nat) (Option.some (Jvm.ClassFile.FieldType.object "com/example/sigillum/sigillum/codec/DerReader")), Jvm.Cond.code ({ cls := "com/example/sigillum/sigillum/codec/DerReader", name := "header", desc := "(Lcom/example/sigillum/sigillum/codec/DerTag;)I" } : Jvm.MethodName) prog_79_method_14_code (8 : Nat) (Option.some Jvm.ClassFile.FieldType.int), Jvm.Cond.code ({ cls := "com/example/sigillum/sigillum/codec/DerTag", name := "identifies", desc := "(B)Z" } : Jvm.MethodName) prog_81_method_5_code (2 : Nat) (Option.some Jvm.ClassFile.FieldType.boolean), Jvm.Cond.code ({ cls := "com/example/sigillum/sigillum/codec/DerReaderHasMorePinLaw", name := "put", desc := "([BIZB)I" } : Jvm.MethodName) method_3_code (4 : Nat) (Option.some Jvm.ClassFile.FieldType.int), Jvm.Cond.code ({ cls := "com/example/sigillum/sigillum/codec/DerReaderHasMorePinLaw", name := "read", desc := "(Lcom/example/sigillum/sigillum/codec/DerReader;Z)V" } : Jvm.MethodName) method_4_code (2 : Nat) (Option.none : Option Jvm.ClassFile.FieldType), Jvm.Cond.code ({ cls := "com/example/sigillum/sigillum/codec/DerReader", name := "nullValue", desc := "()V" } : Jvm.MethodName) prog_79_method_8_code (2 : Nat) (Option.none : Option Jvm.ClassFile.FieldType), Jvm.Cond.code ({ cls := "com/example/sigillum/sigillum/codec/DerReader", name := "contents", desc := "(Lcom/example/sigillum/sigillum/codec/DerTag;)[B" } : Jvm.MethodName) prog_79_method_13_code (4 : Nat) (Option.some (Jvm.ClassFile.FieldType.array Jvm.ClassFile.FieldType.byte)), Jvm.Cond.code ({ cls := "java/util/Arrays", name := "copyOfRange", desc := "([BII)[B" } : Jvm.MethodName) jdk_65_method_132_code (3 : Nat) (Option.some (Jvm.ClassFile.FieldType.array Jvm.ClassFile.FieldType.byte)), Jvm.Cond.code ({ cls := "java/util/Arrays", name := "copyOfRangeByte", desc := "([BII)[B" } : Jvm.MethodName) jdk_65_method_133_code (5 : Nat) (Option.some (Jvm.ClassFile.FieldType.array Jvm.ClassFile.FieldType.byte)), Jvm.Cond.code ({ cls := "java/util/Arrays", name := "checkLength", desc := "(II)V" } : Jvm.MethodName) jdk_65_method_131_code (2 : Nat) (Option.none : Option Jvm.ClassFile.FieldType), Jvm.Cond.code ({ cls := "java/lang/Math", name := "min", desc := "(II)I" } : Jvm.MethodName) jdk_29_method_69_code (2 : Nat) (Option.some Jvm.ClassFile.FieldType.int), Jvm.Cond.code ({ cls := "com/example/sigillum/sigillum/codec/DerReader", name := "octetString", desc := "()[B" } : Jvm.MethodName) prog_79_method_11_code (1 : Nat) (Option.some (Jvm.ClassFile.FieldType.array Jvm.ClassFile.FieldType.byte))]
set_option maxRecDepth 65536 in
theorem codes_eq : words1.filter isCode = codes1 := rfl
theorem w_codes : ∀ c ∈ words1.filter isCode, c.before args0 about1 = true := by
  rw [codes_eq]
  intro c hc
  simp only [codes1, List.mem_cons, List.not_mem_nil, or_false] at hc
  rcases hc with rfl | rfl | rfl | rfl | rfl | rfl | rfl | rfl | rfl | rfl | rfl | rfl | rfl | rfl | rfl | rfl | rfl
  · exact w_c0
  · exact w_c1
  · exact w_c2
  · exact w_c3
  · exact w_c4
  · exact w_c5
  · exact w_c6
  · exact w_c7
  · exact w_c8
  · exact w_c9
  · exact w_c10
  · exact w_c11
  · exact w_c12
  · exact w_c13
  · exact w_c14
  · exact w_c15
  · exact w_c16
set_option maxRecDepth 65536 in
theorem w_t1 : (words1.take 24).all (fun c => isCode c || c.before args0 about1) = true := by decide +kernel
set_option maxRecDepth 65536 in
theorem w_t2 : ((words1.drop 24).take 24).all (fun c => isCode c || c.before args0 about1) = true := by decide +kernel
set_option maxRecDepth 65536 in
theorem w_t3 : (((words1.drop 24).drop 24).take 24).all (fun c => isCode c || c.before args0 about1) = true := by decide +kernel
set_option maxRecDepth 65536 in
theorem w_t4 : ((((words1.drop 24).drop 24).drop 24).take 24).all (fun c => isCode c || c.before args0 about1) = true := by decide +kernel
set_option maxRecDepth 65536 in
theorem w_t5 : ((((words1.drop 24).drop 24).drop 24).drop 24).all (fun c => isCode c || c.before args0 about1) = true := by decide +kernel
theorem w_tables : (allAtoms (Jvm.Cond.code x code maxLocals ret :: tables_1)).before args0 about1 = true := by
  rw [allAtoms_all]
  show words1.all (fun c => c.before args0 about1) = true
  refine all_split ?_ w_codes
  rw [← List.take_append_drop 24 words1, List.all_append, w_t1, ← List.take_append_drop 24 (words1.drop 24), List.all_append, w_t2, ← List.take_append_drop 24 ((words1.drop 24).drop 24), List.all_append, w_t3, ← List.take_append_drop 24 (((words1.drop 24).drop 24).drop 24), List.all_append, w_t4, w_t5]
  rfl
set_option maxRecDepth 65536 in
theorem w_case : (Jvm.Cond.and given_1 narrow_1).before args0 about1 = true := by decide +kernel
theorem w_applies : (headSpec (Jvm.Cond.code x code maxLocals ret :: tables_1) room_1).applies x e0.platform about1 = true :=
  (Spec.applies_iff w_frames).mpr ⟨w_running, w_runnable, w_alone, w_named, w_hears, w_ripe, w_room, w_tables⟩
theorem atStart : AtStart classFile x code maxLocals ret World_1 tables_1 room_1 Calls_1 rest_1 Pre_1 launch0 p0 e0 about1 theMethod args0 below0 :=
  ⟨lists_1, trivial, launch0.admits_env _ _ _, launch0.least_env, fairChoices_fair.cas, fairChoices_fair.clock, w_frames, w_args, w_heap, w_applies, trivial, trivial, w_case⟩
end start1
theorem witness_1 : WitnessClaimed_1 := ⟨start1.p0, start1.e0, start1.about1, start1.theMethod, start1.args0, start1.below0, start1.atStart⟩
end Jvm.Pilot.@@N@@
