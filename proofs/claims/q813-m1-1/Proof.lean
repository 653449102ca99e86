import JvmDerived
import JvmDerived.Pilot.@@N@@Statement
import JvmDerived.Pilot.@@N@@Code
set_option linter.unusedVariables false
set_option linter.unusedSimpArgs false
namespace Jvm.Pilot.@@N@@
open Jvm Jvm.ClassFile Sem Op Lib Jvm.Free Jvm.Stand Jvm.LawKit Jvm.RoadKit Bundle Jvm.Pilot.@@N@@.Jvm.D
/-! ### own kit: a walk in continuation style: Go .. h k n pc Ls st: from heap h, with k cells and n slots made, at pc with locals Ls and stack st, the run comes to its end as F says -/
abbrev Wk : Type := Program × Env × State × MethodId × Array Value × List Frame × Method × Code × Nat
abbrev Wk.p (w : Wk) : Program := w.1
abbrev Wk.e (w : Wk) : Env := w.2.1
abbrev Wk.s (w : Wk) : State := w.2.2.1
abbrev Wk.m (w : Wk) : MethodId := w.2.2.2.1
abbrev Wk.as (w : Wk) : Array Value := w.2.2.2.2.1
abbrev Wk.below (w : Wk) : List Frame := w.2.2.2.2.2.1
abbrev Wk.meth (w : Wk) : Method := w.2.2.2.2.2.2.1
abbrev Wk.c (w : Wk) : Code := w.2.2.2.2.2.2.2.1
abbrev Wk.kk (w : Wk) : Nat := w.2.2.2.2.2.2.2.2
/-- what may be said at the end, of a run that leaves with v -/
def Lv (w : Wk) (R : Room) (n0 : Nat) (Q : Option Value → Heap → Prop) (Y : State → Outcome → Prop) : Prop :=
  ∀ (T : State) (fs : List Frame) (locs : List Loc) (k n : Nat) (v : Option Value), w.s.WarmedH (T.setFrames fs).vm → w.s.sameButNew ({ T.setFrames fs with vm := w.s.vm } : State) locs k n → Fr n0 locs → w.kk ≤ T.heap.size → k ≤ R.cells → n ≤ R.slots → Q v T.heap → Y (T.setFrames fs) (.returned v)
def Nar (w : Wk) (R : Room) (n0 : Nat) (Q : Option Value → Heap → Prop) : State → Outcome → Prop := fun t o => ∃ v L, o = .returned v ∧ (Q v t.heap ∧ Fr n0 L ∧ w.kk ≤ t.heap.size) ∧ FrameEnd w.s o t L R.cells R.slots
theorem Lv.nar (w : Wk) (R : Room) (n0 : Nat) (Q : Option Value → Heap → Prop) : Lv w R n0 Q (Nar w R n0 Q) := fun T fs locs k n v hW hs N hk hc hn hQ => ⟨v, locs, rfl, ⟨hQ, N, hk⟩, ⟨v, rfl⟩, hW, hs.mono hc hn⟩
/-- what stays the same through a body's walk -/
def Cx (w : Wk) (Z : State) (own : String) (bytes : ByteArray) (ml : Nat) (rt : Option FieldType) (nm : String) (R : Room) (n0 : Nat) (Q : Option Value → Heap → Prop) (Y : State → Outcome → Prop) : Prop :=
  w.p.tables.exec = Jvm.exec ∧ w.c.code = bytes ∧ w.c.maxLocals = ml ∧ w.s.vm.findClass own = some w.m.cls ∧ Z.Warmed39 w.s.vm ∧ w.meth.sig.returnType = rt ∧ w.meth.locks = false ∧ w.meth.name = nm ∧ Lv w R n0 Q Y
def Go (w : Wk) (l : Launch) (R : Room) (n0 : Nat) (Y : State → Outcome → Prop) (h : Heap) (k n pc : Nat) (Ls : Array Slot) (st : List Value) : Prop :=
  ∀ (T : State) (locs : List Loc), Stand w.p l w.e R w.s w.m w.as w.below w.meth w.c T locs k n → T.heap = h → n0 ≤ h.size ∧ w.kk ≤ h.size → Fr n0 locs →
    ∃ s₂ o, Steps w.p.tables w.e w.below (T.setTop (mkF w.m pc Ls st)) s₂ ∧ s₂.status = .running ∧ Ended s₂ w.below o ∧ Y s₂ o
def Met (l : Launch) (Z : State) (y : MethodName) (bytes : ByteArray) (ml : Nat) (rt : Option FieldType) (rm : Room) (n0 : Nat) (h0 : Heap) (as' : Array Value) (Q : Option Value → Heap → Prop) : Prop :=
  n0 ≤ h0.size → ∀ ws, MetFree l y (head1 (Jvm.Cond.code y bytes ml rt :: ws) rm) (fun a U => a = as' ∧ Z.Warmed39 U.vm ∧ U.heap = h0) (fun _ _ _ _ _ => True) (fun _ U o U' => ∃ v L, o = .returned v ∧ (Q v U'.heap ∧ Fr n0 L ∧ h0.size ≤ U'.heap.size) ∧ FrameEnd U o U' L rm.cells rm.slots)
section OwnKit
variable {w : Wk} {l : Launch} {R : Room} {Z : State} {a0 : Array Value} {own : String} {bytes : ByteArray} {ml : Nat} {rt : Option FieldType} {nm : String} {n0 : Nat} {Q : Option Value → Heap → Prop} {Y : State → Outcome → Prop} {h : Heap} {k n pc pc' : Nat} {Ls Ls' : Array Slot} {st rest : List Value}
theorem Cx.hx (C : Cx w Z own bytes ml rt nm R n0 Q Y) : w.p.tables.exec = Jvm.exec := C.1
theorem Cx.d (C : Cx w Z own bytes ml rt nm R n0 Q Y) {pc : Nat} {r : Except ClassFile.DecodeError (ClassFile.Instr × Nat)} (hd : decode bytes pc = r) : decode w.c.code pc = r := C.2.1 ▸ hd
theorem Cx.hml (C : Cx w Z own bytes ml rt nm R n0 Q Y) : w.c.maxLocals = ml := C.2.2.1
theorem Cx.hown (C : Cx w Z own bytes ml rt nm R n0 Q Y) : w.s.vm.findClass own = some w.m.cls := C.2.2.2.1
theorem Cx.hZ (C : Cx w Z own bytes ml rt nm R n0 Q Y) : Z.Warmed39 w.s.vm := C.2.2.2.2.1
theorem Cx.ret (C : Cx w Z own bytes ml rt nm R n0 Q Y) : w.meth.sig.returnType = rt := C.2.2.2.2.2.1
theorem Cx.locks (C : Cx w Z own bytes ml rt nm R n0 Q Y) : w.meth.locks = false := C.2.2.2.2.2.2.1
theorem Cx.name (C : Cx w Z own bytes ml rt nm R n0 Q Y) : w.meth.name = nm := C.2.2.2.2.2.2.2.1
theorem Cx.lv (C : Cx w Z own bytes ml rt nm R n0 Q Y) : Lv w R n0 Q Y := C.2.2.2.2.2.2.2.2
theorem Met.intro {y : MethodName} {rm : Room} {h0 : Heap} {as' : Array Value} (hp : plainFor y = true) (hef : ∀ m, entryFrame m as' ml = mkF m 0 Ls [])
    (H : ∀ (w : Wk) (Y : State → Outcome → Prop), Cx w Z y.cls bytes ml rt y.name rm n0 Q Y → Go w l rm n0 Y h0 0 0 0 Ls []) : Met l Z y bytes ml rt rm n0 h0 as' Q := by
  intro hn ws
  refine MetFree.of_bodySF hp hisR ?_
  intro p e s m args below meth c s₁ Bd hml0 hP hK
  obtain ⟨rfl, hZ, hh⟩ := hP
  have X0 : Stand p l e rm s m args below meth c s₁ [] 0 0 := Stand.of_body Bd
  have e0 : s₁.heap = h0 := by rw [← hh, Bd.state]; rfl
  obtain ⟨s₂, o, g1, g2, g3, g4⟩ := H (p, e, s, m, args, below, meth, c, h0.size) _ ⟨Bd.exec, Bd.bytes, hml0, findClass_of_methodNamed Bd.named, hZ, Bd.returns, BodyLoose.notSynchronized Bd, (name_of_methodNamed Bd.named Bd.method).1, Lv.nar _ _ _ _⟩ s₁ [] X0 e0 ⟨hn, Nat.le_refl _⟩ (Fr.nil n0)
  exact ⟨s₂, o, castTop (hef m) g1, g2, g3, g4⟩
theorem Go.plain {st' : List Value} (f : ∀ (T t : State), At T w.m w.c w.below → Steps w.p.tables w.e w.below (T.setTop (mkF w.m pc' Ls' st')) t → Steps w.p.tables w.e w.below (T.setTop (mkF w.m pc Ls st)) t) (G : Go w l R n0 Y h k n pc' Ls' st') : Go w l R n0 Y h k n pc Ls st := by
  intro T locs X hT hn N
  obtain ⟨s₂, o, h1, h2⟩ := G T locs X hT hn N
  exact ⟨s₂, o, f T s₂ X.here h1, h2⟩
theorem Go.stand {st' : List Value} (f : ∀ (T t : State) (locs : List Loc), Stand w.p l w.e R w.s w.m w.as w.below w.meth w.c T locs k n → T.heap = h → Steps w.p.tables w.e w.below (T.setTop (mkF w.m pc' Ls' st')) t → Steps w.p.tables w.e w.below (T.setTop (mkF w.m pc Ls st)) t) (G : Go w l R n0 Y h k n pc' Ls' st') : Go w l R n0 Y h k n pc Ls st := by
  intro T locs X hT hn N
  obtain ⟨s₂, o, h1, h2⟩ := G T locs X hT hn N
  exact ⟨s₂, o, f T s₂ locs X hT h1, h2⟩
theorem Go.size (G : n0 ≤ h.size → Go w l R n0 Y h k n pc Ls st) : Go w l R n0 Y h k n pc Ls st := fun T locs X hT hn N => G hn.1 T locs X hT hn N
theorem own_grow {kk : Nat} {h h' : Heap} (hn : n0 ≤ h.size ∧ kk ≤ h.size) (E : h.size ≤ h'.size) : n0 ≤ h'.size ∧ kk ≤ h'.size := ⟨Nat.le_trans hn.1 E, Nat.le_trans hn.2 E⟩
theorem g_iloadN (C : Cx w Z own bytes ml rt nm R n0 Q Y) {i : Fin 4} {v : Int32} (hd : decode bytes pc = .ok (.iload_n i, 1)) (hp : pc + 1 = pc') (hl : Ls[i.val]? = some (.val (.int v))) (G : Go w l R n0 Y h k n pc' Ls (.int v :: st)) : Go w l R n0 Y h k n pc Ls (st) := by
  subst hp; exact Go.plain (fun T t H K => XS.iloadN H C.hx rfl (C.d hd) hl K) G
theorem g_iload (C : Cx w Z own bytes ml rt nm R n0 Q Y) {i : Nat} {v : Int32} (hd : decode bytes pc = .ok (.iload i, 2)) (hp : pc + 2 = pc') (hl : Ls[i]? = some (.val (.int v))) (G : Go w l R n0 Y h k n pc' Ls (.int v :: st)) : Go w l R n0 Y h k n pc Ls (st) := by
  subst hp; exact Go.plain (fun T t H K => XS.iload H C.hx rfl (C.d hd) hl K) G
theorem g_lloadN (C : Cx w Z own bytes ml rt nm R n0 Q Y) {i : Fin 4} {v : Int64} (hd : decode bytes pc = .ok (.lload_n i, 1)) (hp : pc + 1 = pc') (hl : Ls[i.val]? = some (.val (.long v))) (G : Go w l R n0 Y h k n pc' Ls (.long v :: st)) : Go w l R n0 Y h k n pc Ls (st) := by
  subst hp; exact Go.plain (fun T t H K => XS.lloadN H C.hx rfl (C.d hd) hl K) G
theorem g_lload (C : Cx w Z own bytes ml rt nm R n0 Q Y) {i : Nat} {v : Int64} (hd : decode bytes pc = .ok (.lload i, 2)) (hp : pc + 2 = pc') (hl : Ls[i]? = some (.val (.long v))) (G : Go w l R n0 Y h k n pc' Ls (.long v :: st)) : Go w l R n0 Y h k n pc Ls (st) := by
  subst hp; exact Go.plain (fun T t H K => XS.lload H C.hx rfl (C.d hd) hl K) G
theorem g_aloadN (C : Cx w Z own bytes ml rt nm R n0 Q Y) {i : Fin 4} {v : Value} (hd : decode bytes pc = .ok (.aload_n i, 1)) (hp : pc + 1 = pc') (hl : Ls[i.val]? = some (.val v)) (hv : v.isRef = true) (G : Go w l R n0 Y h k n pc' Ls (v :: st)) : Go w l R n0 Y h k n pc Ls (st) := by
  subst hp; exact Go.plain (fun T t H K => XS.aloadN H C.hx rfl (C.d hd) hl hv K) G
theorem g_aload (C : Cx w Z own bytes ml rt nm R n0 Q Y) {i : Nat} {v : Value} (hd : decode bytes pc = .ok (.aload i, 2)) (hp : pc + 2 = pc') (hl : Ls[i]? = some (.val v)) (hv : v.isRef = true) (G : Go w l R n0 Y h k n pc' Ls (v :: st)) : Go w l R n0 Y h k n pc Ls (st) := by
  subst hp; exact Go.plain (fun T t H K => XS.aload H C.hx rfl (C.d hd) hl hv K) G
theorem g_istoreN (C : Cx w Z own bytes ml rt nm R n0 Q Y) {i : Fin 4} {x : Int32} (hd : decode bytes pc = .ok (.istore_n i, 1)) (hp : pc + 1 = pc') (hl : storeLocals Ls i.val (.int x) = some Ls') (G : Go w l R n0 Y h k n pc' Ls' rest) : Go w l R n0 Y h k n pc Ls (.int x :: rest) := by
  subst hp; exact Go.plain (fun T t H K => XS.istoreN H C.hx rfl (C.d hd) rfl hl K) G
theorem g_istore (C : Cx w Z own bytes ml rt nm R n0 Q Y) {i : Nat} {x : Int32} (hd : decode bytes pc = .ok (.istore i, 2)) (hp : pc + 2 = pc') (hl : storeLocals Ls i (.int x) = some Ls') (G : Go w l R n0 Y h k n pc' Ls' rest) : Go w l R n0 Y h k n pc Ls (.int x :: rest) := by
  subst hp; exact Go.plain (fun T t H K => XS.istore H C.hx rfl (C.d hd) rfl hl K) G
theorem g_lstoreN (C : Cx w Z own bytes ml rt nm R n0 Q Y) {i : Fin 4} {x : Int64} (hd : decode bytes pc = .ok (.lstore_n i, 1)) (hp : pc + 1 = pc') (hl : storeLocals Ls i.val (.long x) = some Ls') (G : Go w l R n0 Y h k n pc' Ls' rest) : Go w l R n0 Y h k n pc Ls (.long x :: rest) := by
  subst hp; exact Go.plain (fun T t H K => XS.lstoreN H C.hx rfl (C.d hd) rfl hl K) G
theorem g_lstore (C : Cx w Z own bytes ml rt nm R n0 Q Y) {i : Nat} {x : Int64} (hd : decode bytes pc = .ok (.lstore i, 2)) (hp : pc + 2 = pc') (hl : storeLocals Ls i (.long x) = some Ls') (G : Go w l R n0 Y h k n pc' Ls' rest) : Go w l R n0 Y h k n pc Ls (.long x :: rest) := by
  subst hp; exact Go.plain (fun T t H K => XS.lstore H C.hx rfl (C.d hd) rfl hl K) G
theorem g_astoreN (C : Cx w Z own bytes ml rt nm R n0 Q Y) {i : Fin 4} {x : Value} (hd : decode bytes pc = .ok (.astore_n i, 1)) (hp : pc + 1 = pc') (hv : x.isRef = true) (hl : storeLocals Ls i.val (x) = some Ls') (G : Go w l R n0 Y h k n pc' Ls' rest) : Go w l R n0 Y h k n pc Ls (x :: rest) := by
  subst hp; exact Go.plain (fun T t H K => XS.astoreN H C.hx rfl (C.d hd) rfl hv hl K) G
theorem g_astore (C : Cx w Z own bytes ml rt nm R n0 Q Y) {i : Nat} {x : Value} (hd : decode bytes pc = .ok (.astore i, 2)) (hp : pc + 2 = pc') (hv : x.isRef = true) (hl : storeLocals Ls i (x) = some Ls') (G : Go w l R n0 Y h k n pc' Ls' rest) : Go w l R n0 Y h k n pc Ls (x :: rest) := by
  subst hp; exact Go.plain (fun T t H K => XS.astore H C.hx rfl (C.d hd) rfl hv hl K) G
theorem g_iconst (C : Cx w Z own bytes ml rt nm R n0 Q Y) {i : Int} {z : Int32} (hd : decode bytes pc = .ok (.iconst i, 1)) (hp : pc + 1 = pc') (hz : Int32.ofInt i = z) (G : Go w l R n0 Y h k n pc' Ls (.int z :: st)) : Go w l R n0 Y h k n pc Ls st := by
  subst hp hz; exact Go.plain (fun T t H K => XS.iconst H C.hx rfl (C.d hd) K) G
theorem g_bipush (C : Cx w Z own bytes ml rt nm R n0 Q Y) {i : Int} {z : Int32} (hd : decode bytes pc = .ok (.bipush i, 2)) (hp : pc + 2 = pc') (hz : (Int8.ofInt i).toInt32 = z) (G : Go w l R n0 Y h k n pc' Ls (.int z :: st)) : Go w l R n0 Y h k n pc Ls st := by
  subst hp hz; exact Go.plain (fun T t H K => XS.bipush H C.hx rfl (C.d hd) K) G
theorem g_sipush (C : Cx w Z own bytes ml rt nm R n0 Q Y) {i : Int} {z : Int32} (hd : decode bytes pc = .ok (.sipush i, 3)) (hp : pc + 3 = pc') (hz : (Int16.ofInt i).toInt32 = z) (G : Go w l R n0 Y h k n pc' Ls (.int z :: st)) : Go w l R n0 Y h k n pc Ls st := by
  subst hp hz; exact Go.plain (fun T t H K => XS.sipush H C.hx rfl (C.d hd) K) G
theorem g_lconst (C : Cx w Z own bytes ml rt nm R n0 Q Y) {i : Fin 2} {z : Int64} (hd : decode bytes pc = .ok (.lconst i, 1)) (hp : pc + 1 = pc') (hz : Int64.ofNat i = z) (G : Go w l R n0 Y h k n pc' Ls (.long z :: st)) : Go w l R n0 Y h k n pc Ls st := by
  subst hp hz; exact Go.plain (fun T t H K => XS.lconst H C.hx rfl (C.d hd) K) G
theorem g_null (C : Cx w Z own bytes ml rt nm R n0 Q Y) (hd : decode bytes pc = .ok (.aconst_null, 1)) (hp : pc + 1 = pc') (G : Go w l R n0 Y h k n pc' Ls (.null :: st)) : Go w l R n0 Y h k n pc Ls (st) := by
  subst hp; exact Go.plain (fun T t H K => XS.aconstNull H C.hx rfl (C.d hd)  K) G
theorem g_iadd (C : Cx w Z own bytes ml rt nm R n0 Q Y) {x y : Int32} (hd : decode bytes pc = .ok (.iadd, 1)) (hp : pc + 1 = pc') (G : Go w l R n0 Y h k n pc' Ls (.int (x + y) :: rest)) : Go w l R n0 Y h k n pc Ls (.int y :: .int x :: rest) := by
  subst hp; exact Go.plain (fun T t H K => XS.iadd H C.hx rfl (C.d hd) rfl K) G
theorem g_isub (C : Cx w Z own bytes ml rt nm R n0 Q Y) {x y : Int32} (hd : decode bytes pc = .ok (.isub, 1)) (hp : pc + 1 = pc') (G : Go w l R n0 Y h k n pc' Ls (.int (x - y) :: rest)) : Go w l R n0 Y h k n pc Ls (.int y :: .int x :: rest) := by
  subst hp; exact Go.plain (fun T t H K => XS.isub H C.hx rfl (C.d hd) rfl K) G
theorem g_imul (C : Cx w Z own bytes ml rt nm R n0 Q Y) {x y : Int32} (hd : decode bytes pc = .ok (.imul, 1)) (hp : pc + 1 = pc') (G : Go w l R n0 Y h k n pc' Ls (.int (x * y) :: rest)) : Go w l R n0 Y h k n pc Ls (.int y :: .int x :: rest) := by
  subst hp; exact Go.plain (fun T t H K => XS.imul H C.hx rfl (C.d hd) rfl K) G
theorem g_iand (C : Cx w Z own bytes ml rt nm R n0 Q Y) {x y : Int32} (hd : decode bytes pc = .ok (.iand, 1)) (hp : pc + 1 = pc') (G : Go w l R n0 Y h k n pc' Ls (.int (x &&& y) :: rest)) : Go w l R n0 Y h k n pc Ls (.int y :: .int x :: rest) := by
  subst hp; exact Go.plain (fun T t H K => XS.iand H C.hx rfl (C.d hd) rfl K) G
theorem g_ior (C : Cx w Z own bytes ml rt nm R n0 Q Y) {x y : Int32} (hd : decode bytes pc = .ok (.ior, 1)) (hp : pc + 1 = pc') (G : Go w l R n0 Y h k n pc' Ls (.int (x ||| y) :: rest)) : Go w l R n0 Y h k n pc Ls (.int y :: .int x :: rest) := by
  subst hp; exact Go.plain (fun T t H K => XS.ior H C.hx rfl (C.d hd) rfl K) G
theorem g_ixor (C : Cx w Z own bytes ml rt nm R n0 Q Y) {x y : Int32} (hd : decode bytes pc = .ok (.ixor, 1)) (hp : pc + 1 = pc') (G : Go w l R n0 Y h k n pc' Ls (.int (x ^^^ y) :: rest)) : Go w l R n0 Y h k n pc Ls (.int y :: .int x :: rest) := by
  subst hp; exact Go.plain (fun T t H K => XS.ixor H C.hx rfl (C.d hd) rfl K) G
theorem g_ishl (C : Cx w Z own bytes ml rt nm R n0 Q Y) {x y : Int32} (hd : decode bytes pc = .ok (.ishl, 1)) (hp : pc + 1 = pc') (G : Go w l R n0 Y h k n pc' Ls (.int (x <<< (y &&& 31)) :: rest)) : Go w l R n0 Y h k n pc Ls (.int y :: .int x :: rest) := by
  subst hp; exact Go.plain (fun T t H K => XS.ishl H C.hx rfl (C.d hd) rfl K) G
theorem g_ishr (C : Cx w Z own bytes ml rt nm R n0 Q Y) {x y : Int32} (hd : decode bytes pc = .ok (.ishr, 1)) (hp : pc + 1 = pc') (G : Go w l R n0 Y h k n pc' Ls (.int (x >>> (y &&& 31)) :: rest)) : Go w l R n0 Y h k n pc Ls (.int y :: .int x :: rest) := by
  subst hp; exact Go.plain (fun T t H K => XS.ishr H C.hx rfl (C.d hd) rfl K) G
theorem g_iushr (C : Cx w Z own bytes ml rt nm R n0 Q Y) {x y : Int32} (hd : decode bytes pc = .ok (.iushr, 1)) (hp : pc + 1 = pc') (G : Go w l R n0 Y h k n pc' Ls (.int ((x.toUInt32 >>> (y &&& 31).toUInt32).toInt32) :: rest)) : Go w l R n0 Y h k n pc Ls (.int y :: .int x :: rest) := by
  subst hp; exact Go.plain (fun T t H K => XS.iushr H C.hx rfl (C.d hd) rfl K) G
theorem g_ladd (C : Cx w Z own bytes ml rt nm R n0 Q Y) {x y : Int64} (hd : decode bytes pc = .ok (.ladd, 1)) (hp : pc + 1 = pc') (G : Go w l R n0 Y h k n pc' Ls (.long (x + y) :: rest)) : Go w l R n0 Y h k n pc Ls (.long y :: .long x :: rest) := by
  subst hp; exact Go.plain (fun T t H K => XS.ladd H C.hx rfl (C.d hd) rfl K) G
theorem g_lsub (C : Cx w Z own bytes ml rt nm R n0 Q Y) {x y : Int64} (hd : decode bytes pc = .ok (.lsub, 1)) (hp : pc + 1 = pc') (G : Go w l R n0 Y h k n pc' Ls (.long (x - y) :: rest)) : Go w l R n0 Y h k n pc Ls (.long y :: .long x :: rest) := by
  subst hp; exact Go.plain (fun T t H K => XS.lsub H C.hx rfl (C.d hd) rfl K) G
theorem g_lmul (C : Cx w Z own bytes ml rt nm R n0 Q Y) {x y : Int64} (hd : decode bytes pc = .ok (.lmul, 1)) (hp : pc + 1 = pc') (G : Go w l R n0 Y h k n pc' Ls (.long (x * y) :: rest)) : Go w l R n0 Y h k n pc Ls (.long y :: .long x :: rest) := by
  subst hp; exact Go.plain (fun T t H K => XS.lmul H C.hx rfl (C.d hd) rfl K) G
theorem g_land (C : Cx w Z own bytes ml rt nm R n0 Q Y) {x y : Int64} (hd : decode bytes pc = .ok (.land, 1)) (hp : pc + 1 = pc') (G : Go w l R n0 Y h k n pc' Ls (.long (x &&& y) :: rest)) : Go w l R n0 Y h k n pc Ls (.long y :: .long x :: rest) := by
  subst hp; exact Go.plain (fun T t H K => XS.land H C.hx rfl (C.d hd) rfl K) G
theorem g_lor (C : Cx w Z own bytes ml rt nm R n0 Q Y) {x y : Int64} (hd : decode bytes pc = .ok (.lor, 1)) (hp : pc + 1 = pc') (G : Go w l R n0 Y h k n pc' Ls (.long (x ||| y) :: rest)) : Go w l R n0 Y h k n pc Ls (.long y :: .long x :: rest) := by
  subst hp; exact Go.plain (fun T t H K => XS.lor H C.hx rfl (C.d hd) rfl K) G
theorem g_lxor (C : Cx w Z own bytes ml rt nm R n0 Q Y) {x y : Int64} (hd : decode bytes pc = .ok (.lxor, 1)) (hp : pc + 1 = pc') (G : Go w l R n0 Y h k n pc' Ls (.long (x ^^^ y) :: rest)) : Go w l R n0 Y h k n pc Ls (.long y :: .long x :: rest) := by
  subst hp; exact Go.plain (fun T t H K => XS.lxor H C.hx rfl (C.d hd) rfl K) G
theorem g_lshl (C : Cx w Z own bytes ml rt nm R n0 Q Y) {x : Int64} {y : Int32} (hd : decode bytes pc = .ok (.lshl, 1)) (hp : pc + 1 = pc') (G : Go w l R n0 Y h k n pc' Ls (.long (x <<< (y &&& 0x3f).toInt64) :: rest)) : Go w l R n0 Y h k n pc Ls (.int y :: .long x :: rest) := by
  subst hp; exact Go.plain (fun T t H K => XS.lshl H C.hx rfl (C.d hd) rfl K) G
theorem g_lshr (C : Cx w Z own bytes ml rt nm R n0 Q Y) {x : Int64} {y : Int32} (hd : decode bytes pc = .ok (.lshr, 1)) (hp : pc + 1 = pc') (G : Go w l R n0 Y h k n pc' Ls (.long (x >>> (y &&& 0x3f).toInt64) :: rest)) : Go w l R n0 Y h k n pc Ls (.int y :: .long x :: rest) := by
  subst hp; exact Go.plain (fun T t H K => XS.lshr H C.hx rfl (C.d hd) rfl K) G
theorem g_lushr (C : Cx w Z own bytes ml rt nm R n0 Q Y) {x : Int64} {y : Int32} (hd : decode bytes pc = .ok (.lushr, 1)) (hp : pc + 1 = pc') (G : Go w l R n0 Y h k n pc' Ls (.long ((x.toUInt64 >>> (y &&& 0x3f).toInt64.toUInt64).toInt64) :: rest)) : Go w l R n0 Y h k n pc Ls (.int y :: .long x :: rest) := by
  subst hp; exact Go.plain (fun T t H K => XS.lushr H C.hx rfl (C.d hd) rfl K) G
theorem g_idiv (C : Cx w Z own bytes ml rt nm R n0 Q Y) {x y : Int32} (hd : decode bytes pc = .ok (.idiv, 1)) (hp : pc + 1 = pc') (hy : y ≠ 0) (G : Go w l R n0 Y h k n pc' Ls (.int (x / y) :: rest)) : Go w l R n0 Y h k n pc Ls (.int y :: .int x :: rest) := by
  subst hp; exact Go.plain (fun T t H K => XS.idiv H C.hx rfl (C.d hd) rfl hy K) G
theorem g_irem (C : Cx w Z own bytes ml rt nm R n0 Q Y) {x y : Int32} (hd : decode bytes pc = .ok (.irem, 1)) (hp : pc + 1 = pc') (hy : y ≠ 0) (G : Go w l R n0 Y h k n pc' Ls (.int (x % y) :: rest)) : Go w l R n0 Y h k n pc Ls (.int y :: .int x :: rest) := by
  subst hp; exact Go.stand (fun T t locs X hT K => iremM X C.hx rfl (C.d hd) rfl hy K) G
theorem g_lcmp (C : Cx w Z own bytes ml rt nm R n0 Q Y) {x y : Int64} (hd : decode bytes pc = .ok (.lcmp, 1)) (hp : pc + 1 = pc') (G : Go w l R n0 Y h k n pc' Ls (.int (lcmpW x y) :: rest)) : Go w l R n0 Y h k n pc Ls (.long y :: .long x :: rest) := by
  subst hp; exact Go.plain (fun T t H K => XS.lcmp H C.hx rfl (C.d hd) rfl K) G
theorem g_ineg (C : Cx w Z own bytes ml rt nm R n0 Q Y) {v : Int32} (hd : decode bytes pc = .ok (.ineg, 1)) (hp : pc + 1 = pc') (G : Go w l R n0 Y h k n pc' Ls (.int (-v) :: rest)) : Go w l R n0 Y h k n pc Ls (.int v :: rest) := by
  subst hp; exact Go.plain (fun T t H K => XS.ineg H C.hx rfl (C.d hd) rfl K) G
theorem g_lneg (C : Cx w Z own bytes ml rt nm R n0 Q Y) {v : Int64} (hd : decode bytes pc = .ok (.lneg, 1)) (hp : pc + 1 = pc') (G : Go w l R n0 Y h k n pc' Ls (.long (-v) :: rest)) : Go w l R n0 Y h k n pc Ls (.long v :: rest) := by
  subst hp; exact Go.plain (fun T t H K => XS.lneg H C.hx rfl (C.d hd) rfl K) G
theorem g_i2l (C : Cx w Z own bytes ml rt nm R n0 Q Y) {v : Int32} (hd : decode bytes pc = .ok (.i2l, 1)) (hp : pc + 1 = pc') (G : Go w l R n0 Y h k n pc' Ls (.long (v.toInt64) :: rest)) : Go w l R n0 Y h k n pc Ls (.int v :: rest) := by
  subst hp; exact Go.plain (fun T t H K => XS.i2l H C.hx rfl (C.d hd) rfl K) G
theorem g_l2i (C : Cx w Z own bytes ml rt nm R n0 Q Y) {v : Int64} (hd : decode bytes pc = .ok (.l2i, 1)) (hp : pc + 1 = pc') (G : Go w l R n0 Y h k n pc' Ls (.int (v.toInt32) :: rest)) : Go w l R n0 Y h k n pc Ls (.long v :: rest) := by
  subst hp; exact Go.plain (fun T t H K => XS.l2i H C.hx rfl (C.d hd) rfl K) G
theorem g_i2b (C : Cx w Z own bytes ml rt nm R n0 Q Y) {v : Int32} (hd : decode bytes pc = .ok (.i2b, 1)) (hp : pc + 1 = pc') (G : Go w l R n0 Y h k n pc' Ls (.int (v.toInt8.toInt32) :: rest)) : Go w l R n0 Y h k n pc Ls (.int v :: rest) := by
  subst hp; exact Go.plain (fun T t H K => XS.i2b H C.hx rfl (C.d hd) rfl K) G
theorem g_i2s (C : Cx w Z own bytes ml rt nm R n0 Q Y) {v : Int32} (hd : decode bytes pc = .ok (.i2s, 1)) (hp : pc + 1 = pc') (G : Go w l R n0 Y h k n pc' Ls (.int (v.toInt16.toInt32) :: rest)) : Go w l R n0 Y h k n pc Ls (.int v :: rest) := by
  subst hp; exact Go.plain (fun T t H K => XS.i2s H C.hx rfl (C.d hd) rfl K) G
theorem g_i2c (C : Cx w Z own bytes ml rt nm R n0 Q Y) {v : Int32} (hd : decode bytes pc = .ok (.i2c, 1)) (hp : pc + 1 = pc') (G : Go w l R n0 Y h k n pc' Ls (.int (v.toUInt32.toUInt16.toUInt32.toInt32) :: rest)) : Go w l R n0 Y h k n pc Ls (.int v :: rest) := by
  subst hp; exact Go.plain (fun T t H K => XS.i2c H C.hx rfl (C.d hd) rfl K) G
theorem g_dup (C : Cx w Z own bytes ml rt nm R n0 Q Y) {x : Value} (hd : decode bytes pc = .ok (.dup, 1)) (hp : pc + 1 = pc') (hc : x.category = 1) (G : Go w l R n0 Y h k n pc' Ls (x :: x :: rest)) : Go w l R n0 Y h k n pc Ls (x :: rest) := by
  subst hp; exact Go.plain (fun T t H K => XS.dup H C.hx rfl (C.d hd) rfl hc K) G
theorem g_dupX1 (C : Cx w Z own bytes ml rt nm R n0 Q Y) {x y : Value} (hd : decode bytes pc = .ok (.dup_x1, 1)) (hp : pc + 1 = pc') (hc : x.category = 1) (hc2 : y.category = 1) (G : Go w l R n0 Y h k n pc' Ls (x :: y :: x :: rest)) : Go w l R n0 Y h k n pc Ls (x :: y :: rest) := by
  subst hp; exact Go.plain (fun T t H K => XS.dupX1 H C.hx rfl (C.d hd) rfl hc hc2 K) G
theorem g_pop (C : Cx w Z own bytes ml rt nm R n0 Q Y) {x : Value} (hd : decode bytes pc = .ok (.pop, 1)) (hp : pc + 1 = pc') (hc : x.category = 1) (G : Go w l R n0 Y h k n pc' Ls (rest)) : Go w l R n0 Y h k n pc Ls (x :: rest) := by
  subst hp; exact Go.plain (fun T t H K => XS.pop H C.hx rfl (C.d hd) rfl hc K) G
theorem g_iinc (C : Cx w Z own bytes ml rt nm R n0 Q Y) {i : Nat} {d : Int} {x : Int32} (hd : decode bytes pc = .ok (.iinc i d, 3)) (hp : pc + 3 = pc') (hl : Ls[i]? = some (.val (.int x))) {z : Int32} (hz : x + Int32.ofInt d = z) (hl' : storeLocals Ls i (.int z) = some Ls') (G : Go w l R n0 Y h k n pc' Ls' st) : Go w l R n0 Y h k n pc Ls st := by
  subst hp hz; exact Go.plain (fun T t H K => XS.iinc H C.hx rfl (C.d hd) hl hl' K) G
theorem g_goto (C : Cx w Z own bytes ml rt nm R n0 Q Y) {o : Int} (hd : decode bytes pc = .ok (.goto o, 3)) (ho : 0 ≤ (pc : Int) + o) (hp : ((pc : Int) + o).toNat = pc') (G : Go w l R n0 Y h k n pc' Ls st) : Go w l R n0 Y h k n pc Ls st :=
  Go.plain (fun T t H K => XS.goto H C.hx rfl (pc0 := pc) rfl (C.d hd) ho hp K) G
theorem g_icmp_lt (C : Cx w Z own bytes ml rt nm R n0 Q Y) {o : Int} {x y : Int32} {pcN : Nat} (hd : decode bytes pc = .ok (.if_icmp .lt o, 3)) (ho : 0 ≤ (pc : Int) + o) (hp : ((pc : Int) + o).toNat = pc') (hq : pc + 3 = pcN) (G : x < y → Go w l R n0 Y h k n pc' Ls rest) (G' : ¬ x < y → Go w l R n0 Y h k n pcN Ls rest) : Go w l R n0 Y h k n pc Ls (.int y :: .int x :: rest) := by
  subst hq
  by_cases q : x < y
  · exact Go.plain (fun T t H K => XS.icmpYes H C.hx rfl (pc0 := pc) rfl (C.d hd) rfl (tlt q).1 ho hp K) (G q)
  · exact Go.plain (fun T t H K => XS.icmpNo H C.hx rfl (C.d hd) rfl (flt q).1 K) (G' q)
theorem g_if_lt (C : Cx w Z own bytes ml rt nm R n0 Q Y) {o : Int} {x : Int32} {pcN : Nat} (hd : decode bytes pc = .ok (.ifCond .lt o, 3)) (ho : 0 ≤ (pc : Int) + o) (hp : ((pc : Int) + o).toNat = pc') (hq : pc + 3 = pcN) (G : x < 0 → Go w l R n0 Y h k n pc' Ls rest) (G' : ¬ x < 0 → Go w l R n0 Y h k n pcN Ls rest) : Go w l R n0 Y h k n pc Ls (.int x :: rest) := by
  subst hq
  by_cases q : x < 0
  · exact Go.plain (fun T t H K => XS.ifYes H C.hx rfl (pc0 := pc) rfl (C.d hd) rfl ((if0 _ _).trans (tlt q).1) ho hp K) (G q)
  · exact Go.plain (fun T t H K => XS.ifNo H C.hx rfl (C.d hd) rfl ((if0 _ _).trans (flt q).1) K) (G' q)
theorem g_icmp_ge (C : Cx w Z own bytes ml rt nm R n0 Q Y) {o : Int} {x y : Int32} {pcN : Nat} (hd : decode bytes pc = .ok (.if_icmp .ge o, 3)) (ho : 0 ≤ (pc : Int) + o) (hp : ((pc : Int) + o).toNat = pc') (hq : pc + 3 = pcN) (G : ¬ x < y → Go w l R n0 Y h k n pc' Ls rest) (G' : x < y → Go w l R n0 Y h k n pcN Ls rest) : Go w l R n0 Y h k n pc Ls (.int y :: .int x :: rest) := by
  subst hq
  by_cases q : x < y
  · exact Go.plain (fun T t H K => XS.icmpNo H C.hx rfl (C.d hd) rfl (tlt q).2.1 K) (G' q)
  · exact Go.plain (fun T t H K => XS.icmpYes H C.hx rfl (pc0 := pc) rfl (C.d hd) rfl (flt q).2.1 ho hp K) (G q)
theorem g_if_ge (C : Cx w Z own bytes ml rt nm R n0 Q Y) {o : Int} {x : Int32} {pcN : Nat} (hd : decode bytes pc = .ok (.ifCond .ge o, 3)) (ho : 0 ≤ (pc : Int) + o) (hp : ((pc : Int) + o).toNat = pc') (hq : pc + 3 = pcN) (G : ¬ x < 0 → Go w l R n0 Y h k n pc' Ls rest) (G' : x < 0 → Go w l R n0 Y h k n pcN Ls rest) : Go w l R n0 Y h k n pc Ls (.int x :: rest) := by
  subst hq
  by_cases q : x < 0
  · exact Go.plain (fun T t H K => XS.ifNo H C.hx rfl (C.d hd) rfl ((if0 _ _).trans (tlt q).2.1) K) (G' q)
  · exact Go.plain (fun T t H K => XS.ifYes H C.hx rfl (pc0 := pc) rfl (C.d hd) rfl ((if0 _ _).trans (flt q).2.1) ho hp K) (G q)
theorem g_icmp_gt (C : Cx w Z own bytes ml rt nm R n0 Q Y) {o : Int} {x y : Int32} {pcN : Nat} (hd : decode bytes pc = .ok (.if_icmp .gt o, 3)) (ho : 0 ≤ (pc : Int) + o) (hp : ((pc : Int) + o).toNat = pc') (hq : pc + 3 = pcN) (G : y < x → Go w l R n0 Y h k n pc' Ls rest) (G' : ¬ y < x → Go w l R n0 Y h k n pcN Ls rest) : Go w l R n0 Y h k n pc Ls (.int y :: .int x :: rest) := by
  subst hq
  by_cases q : y < x
  · exact Go.plain (fun T t H K => XS.icmpYes H C.hx rfl (pc0 := pc) rfl (C.d hd) rfl (tlt q).2.2.1 ho hp K) (G q)
  · exact Go.plain (fun T t H K => XS.icmpNo H C.hx rfl (C.d hd) rfl (flt q).2.2.1 K) (G' q)
theorem g_if_gt (C : Cx w Z own bytes ml rt nm R n0 Q Y) {o : Int} {x : Int32} {pcN : Nat} (hd : decode bytes pc = .ok (.ifCond .gt o, 3)) (ho : 0 ≤ (pc : Int) + o) (hp : ((pc : Int) + o).toNat = pc') (hq : pc + 3 = pcN) (G : 0 < x → Go w l R n0 Y h k n pc' Ls rest) (G' : ¬ 0 < x → Go w l R n0 Y h k n pcN Ls rest) : Go w l R n0 Y h k n pc Ls (.int x :: rest) := by
  subst hq
  by_cases q : 0 < x
  · exact Go.plain (fun T t H K => XS.ifYes H C.hx rfl (pc0 := pc) rfl (C.d hd) rfl ((if0 _ _).trans (tlt q).2.2.1) ho hp K) (G q)
  · exact Go.plain (fun T t H K => XS.ifNo H C.hx rfl (C.d hd) rfl ((if0 _ _).trans (flt q).2.2.1) K) (G' q)
theorem g_icmp_le (C : Cx w Z own bytes ml rt nm R n0 Q Y) {o : Int} {x y : Int32} {pcN : Nat} (hd : decode bytes pc = .ok (.if_icmp .le o, 3)) (ho : 0 ≤ (pc : Int) + o) (hp : ((pc : Int) + o).toNat = pc') (hq : pc + 3 = pcN) (G : ¬ y < x → Go w l R n0 Y h k n pc' Ls rest) (G' : y < x → Go w l R n0 Y h k n pcN Ls rest) : Go w l R n0 Y h k n pc Ls (.int y :: .int x :: rest) := by
  subst hq
  by_cases q : y < x
  · exact Go.plain (fun T t H K => XS.icmpNo H C.hx rfl (C.d hd) rfl (tlt q).2.2.2 K) (G' q)
  · exact Go.plain (fun T t H K => XS.icmpYes H C.hx rfl (pc0 := pc) rfl (C.d hd) rfl (flt q).2.2.2 ho hp K) (G q)
theorem g_if_le (C : Cx w Z own bytes ml rt nm R n0 Q Y) {o : Int} {x : Int32} {pcN : Nat} (hd : decode bytes pc = .ok (.ifCond .le o, 3)) (ho : 0 ≤ (pc : Int) + o) (hp : ((pc : Int) + o).toNat = pc') (hq : pc + 3 = pcN) (G : ¬ 0 < x → Go w l R n0 Y h k n pc' Ls rest) (G' : 0 < x → Go w l R n0 Y h k n pcN Ls rest) : Go w l R n0 Y h k n pc Ls (.int x :: rest) := by
  subst hq
  by_cases q : 0 < x
  · exact Go.plain (fun T t H K => XS.ifNo H C.hx rfl (C.d hd) rfl ((if0 _ _).trans (tlt q).2.2.2) K) (G' q)
  · exact Go.plain (fun T t H K => XS.ifYes H C.hx rfl (pc0 := pc) rfl (C.d hd) rfl ((if0 _ _).trans (flt q).2.2.2) ho hp K) (G q)
theorem g_icmp_eq (C : Cx w Z own bytes ml rt nm R n0 Q Y) {o : Int} {x y : Int32} {pcN : Nat} (hd : decode bytes pc = .ok (.if_icmp .eq o, 3)) (ho : 0 ≤ (pc : Int) + o) (hp : ((pc : Int) + o).toNat = pc') (hq : pc + 3 = pcN) (G : x = y → Go w l R n0 Y h k n pc' Ls rest) (G' : ¬ x = y → Go w l R n0 Y h k n pcN Ls rest) : Go w l R n0 Y h k n pc Ls (.int y :: .int x :: rest) := by
  subst hq
  by_cases q : x = y
  · exact Go.plain (fun T t H K => XS.icmpYes H C.hx rfl (pc0 := pc) rfl (C.d hd) rfl (teq q).1 ho hp K) (G q)
  · exact Go.plain (fun T t H K => XS.icmpNo H C.hx rfl (C.d hd) rfl (feq q).1 K) (G' q)
theorem g_if_eq (C : Cx w Z own bytes ml rt nm R n0 Q Y) {o : Int} {x : Int32} {pcN : Nat} (hd : decode bytes pc = .ok (.ifCond .eq o, 3)) (ho : 0 ≤ (pc : Int) + o) (hp : ((pc : Int) + o).toNat = pc') (hq : pc + 3 = pcN) (G : x = 0 → Go w l R n0 Y h k n pc' Ls rest) (G' : ¬ x = 0 → Go w l R n0 Y h k n pcN Ls rest) : Go w l R n0 Y h k n pc Ls (.int x :: rest) := by
  subst hq
  by_cases q : x = 0
  · exact Go.plain (fun T t H K => XS.ifYes H C.hx rfl (pc0 := pc) rfl (C.d hd) rfl ((if0 _ _).trans (teq q).1) ho hp K) (G q)
  · exact Go.plain (fun T t H K => XS.ifNo H C.hx rfl (C.d hd) rfl ((if0 _ _).trans (feq q).1) K) (G' q)
theorem g_icmp_ne (C : Cx w Z own bytes ml rt nm R n0 Q Y) {o : Int} {x y : Int32} {pcN : Nat} (hd : decode bytes pc = .ok (.if_icmp .ne o, 3)) (ho : 0 ≤ (pc : Int) + o) (hp : ((pc : Int) + o).toNat = pc') (hq : pc + 3 = pcN) (G : ¬ x = y → Go w l R n0 Y h k n pc' Ls rest) (G' : x = y → Go w l R n0 Y h k n pcN Ls rest) : Go w l R n0 Y h k n pc Ls (.int y :: .int x :: rest) := by
  subst hq
  by_cases q : x = y
  · exact Go.plain (fun T t H K => XS.icmpNo H C.hx rfl (C.d hd) rfl (teq q).2 K) (G' q)
  · exact Go.plain (fun T t H K => XS.icmpYes H C.hx rfl (pc0 := pc) rfl (C.d hd) rfl (feq q).2 ho hp K) (G q)
theorem g_if_ne (C : Cx w Z own bytes ml rt nm R n0 Q Y) {o : Int} {x : Int32} {pcN : Nat} (hd : decode bytes pc = .ok (.ifCond .ne o, 3)) (ho : 0 ≤ (pc : Int) + o) (hp : ((pc : Int) + o).toNat = pc') (hq : pc + 3 = pcN) (G : ¬ x = 0 → Go w l R n0 Y h k n pc' Ls rest) (G' : x = 0 → Go w l R n0 Y h k n pcN Ls rest) : Go w l R n0 Y h k n pc Ls (.int x :: rest) := by
  subst hq
  by_cases q : x = 0
  · exact Go.plain (fun T t H K => XS.ifNo H C.hx rfl (C.d hd) rfl ((if0 _ _).trans (teq q).2) K) (G' q)
  · exact Go.plain (fun T t H K => XS.ifYes H C.hx rfl (pc0 := pc) rfl (C.d hd) rfl ((if0 _ _).trans (feq q).2) ho hp K) (G q)
theorem g_ifnullY (C : Cx w Z own bytes ml rt nm R n0 Q Y) {o : Int} (hd : decode bytes pc = .ok (.ifnull o, 3)) (ho : 0 ≤ (pc : Int) + o) (hp : ((pc : Int) + o).toNat = pc') (G : Go w l R n0 Y h k n pc' Ls rest) : Go w l R n0 Y h k n pc Ls (.null :: rest) := Go.plain (fun T t H K => XS.ifnullYes H C.hx rfl (pc0 := pc) rfl (C.d hd) rfl ho hp K) G
theorem g_ifnullN (C : Cx w Z own bytes ml rt nm R n0 Q Y) {o : Int} {b : Addr} (hd : decode bytes pc = .ok (.ifnull o, 3)) (hp : pc + 3 = pc') (G : Go w l R n0 Y h k n pc' Ls rest) : Go w l R n0 Y h k n pc Ls (.ref b :: rest) := by subst hp; exact Go.plain (fun T t H K => XS.ifnullNo H C.hx rfl (C.d hd) rfl K) G
theorem g_ifnonnullY (C : Cx w Z own bytes ml rt nm R n0 Q Y) {o : Int} {b : Addr} (hd : decode bytes pc = .ok (.ifnonnull o, 3)) (ho : 0 ≤ (pc : Int) + o) (hp : ((pc : Int) + o).toNat = pc') (G : Go w l R n0 Y h k n pc' Ls rest) : Go w l R n0 Y h k n pc Ls (.ref b :: rest) := Go.plain (fun T t H K => XS.ifnonnullYes H C.hx rfl (pc0 := pc) rfl (C.d hd) rfl ho hp K) G
theorem g_ifnonnullN (C : Cx w Z own bytes ml rt nm R n0 Q Y) {o : Int} (hd : decode bytes pc = .ok (.ifnonnull o, 3)) (hp : pc + 3 = pc') (G : Go w l R n0 Y h k n pc' Ls rest) : Go w l R n0 Y h k n pc Ls (.null :: rest) := by subst hp; exact Go.plain (fun T t H K => XS.ifnonnullNo H C.hx rfl (C.d hd) rfl K) G
theorem g_acmp (C : Cx w Z own bytes ml rt nm R n0 Q Y) {cd : ACond} {o : Int} {x y : Value} (h1 : x.isRef = true) (h2 : y.isRef = true) (same : Bool) (hd : decode bytes pc = .ok (.if_acmp cd o, 3)) (ho : 0 ≤ (pc : Int) + o) (hs : decide (x = y) = same) (hp : pc' = if acV cd same = true then ((pc : Int) + o).toNat else pc + 3) (G : Go w l R n0 Y h k n pc' Ls rest) : Go w l R n0 Y h k n pc Ls (y :: x :: rest) :=
  Go.stand (fun T t locs X hT K => Jvm.RoadKit.acmp (g := mkF w.m pc Ls (y :: x :: rest)) X C.hx rfl h1 h2 (pc0 := pc) rfl (C.d hd) rfl hs ho hp K) G
theorem g_ldcI (C : Cx w Z own bytes ml rt nm R n0 Q Y) {i : Nat} {v : Int32} (w1 : (Jvm.Cond.constant own i v).before a0 Z = true) (hd : decode bytes pc = .ok (.ldc i, 2)) (hp : pc + 2 = pc') (G : Go w l R n0 Y h k n pc' Ls (.int v :: st)) : Go w l R n0 Y h k n pc Ls st := by
  subst hp; exact Go.stand (fun T t locs X hT K => X.ldcInt C.hx C.hown (mvT C.hZ w1) (g := mkF w.m pc Ls st) rfl (C.d hd) _ K) G
theorem g_ldc2J (C : Cx w Z own bytes ml rt nm R n0 Q Y) {i : Nat} {v : Int64} (w1 : (Jvm.Cond.constantLong own i v).before a0 Z = true) (hd : decode bytes pc = .ok (.ldc2_w i, 3)) (hp : pc + 3 = pc') (G : Go w l R n0 Y h k n pc' Ls (.long v :: st)) : Go w l R n0 Y h k n pc Ls st := by
  subst hp; exact Go.stand (fun T t locs X hT K => X.ldc2Long C.hx C.hown (mvT C.hZ w1) (g := mkF w.m pc Ls st) rfl (C.d hd) _ K) G
theorem Go.leave {v : Option Value} (L : Lv w R n0 Q Y) (hv : w.meth.sig.returnType = none → v = none) (hlk : w.meth.locks = false) (hQ : Q v h) (hc : k ≤ R.cells) (hs : n ≤ R.slots)
    (f : ∀ (T : State) (locs : List Loc) (fs : List Frame), Stand w.p l w.e R w.s w.m w.as w.below w.meth w.c T locs k n → (∀ (f : JFrame) (acts : List Action), f.method = w.m → f.locked = none → f.entered = [] → (doReturn w.e (T.setTop f) acts v).1 = T.setFrames fs) → Steps w.p.tables w.e w.below (T.setTop (mkF w.m pc Ls st)) (T.setFrames fs)) : Go w l R n0 Y h k n pc Ls st := by
  intro T locs X hT hn N
  obtain ⟨fs, hr, hrun, hended, hW, hsame⟩ := X.leave (v := v) hv hlk
  exact ⟨_, _, f T locs fs X hr, hrun, hended, L T fs locs k n v hW hsame N (by rw [hT]; exact hn.2) hc hs (by rw [hT]; exact hQ)⟩
theorem g_ret (C : Cx w Z own bytes ml rt nm R n0 Q Y) (hr : rt = none) (hd : decode bytes pc = .ok (.return_, 1)) (hQ : Q none h) (hc : k ≤ R.cells) (hs : n ≤ R.slots) : Go w l R n0 Y h k n pc Ls [] :=
  Go.leave C.lv (v := none) (fun _ => rfl) C.locks hQ hc hs (fun T locs fs X hl => X.returnOut C.hx (C.ret.trans hr) (C.d hd) hl)
theorem g_retI (C : Cx w Z own bytes ml rt nm R n0 Q Y) (hr : rt = some .int) (hd : decode bytes pc = .ok (.ireturn, 1)) {z : Int32} (hQ : Q (some (.int z)) h) (hc : k ≤ R.cells) (hs : n ≤ R.slots) : Go w l R n0 Y h k n pc Ls [.int z] :=
  Go.leave C.lv (v := some (.int z)) (fun q => by rw [C.ret, hr] at q; cases q) C.locks hQ hc hs (fun T locs fs X hl => X.ireturnOut C.hx (t := .int) (C.ret.trans hr) rfl (Or.inl rfl) (C.d hd) hl)
theorem g_retN (C : Cx w Z own bytes ml rt nm R n0 Q Y) {t : FieldType} (hr : rt = some t) (ht : t = .boolean ∨ t = .byte ∨ t = .char ∨ t = .short) (hd : decode bytes pc = .ok (.ireturn, 1)) {z : Int32} (hQ : Q (some (.int (nar t z))) h) (hc : k ≤ R.cells) (hs : n ≤ R.slots) : Go w l R n0 Y h k n pc Ls (.int z :: rest) :=
  Go.leave C.lv (v := some (.int (nar t z))) (fun q => by rw [C.ret, hr] at q; cases q) C.locks hQ hc hs (fun T locs fs X hl => retN X C.hx (C.ret.trans hr) ht (C.d hd) hl)
theorem g_retA (C : Cx w Z own bytes ml rt nm R n0 Q Y) {t : FieldType} {v : Value} (hv : v.isRef = true) (hr : rt = some t) (ht : t.isReference = true) (hd : decode bytes pc = .ok (.areturn, 1)) (hQ : Q (some v) h) (hc : k ≤ R.cells) (hs : n ≤ R.slots) : Go w l R n0 Y h k n pc Ls [v] :=
  Go.leave C.lv (v := some v) (fun q => by rw [C.ret, hr] at q; cases q) C.locks hQ hc hs (fun T locs fs X hl => X.areturnOut C.hx hv (C.ret.trans hr) ht (C.d hd) hl)
theorem g_retL (C : Cx w Z own bytes ml rt nm R n0 Q Y) (hr : rt = some .long) (hd : decode bytes pc = .ok (.lreturn, 1)) {z : Int64} (hQ : Q (some (.long z)) h) (hc : k ≤ R.cells) (hs : n ≤ R.slots) : Go w l R n0 Y h k n pc Ls (.long z :: rest) :=
  Go.leave C.lv (v := some (.long z)) (fun q => by rw [C.ret, hr] at q; cases q) C.locks hQ hc hs (fun T locs fs X hl => by
    have hx := C.hx
    have hd' := C.d hd
    have hr' := C.ret.trans hr
    jvm_step X.here [X.here.top, hx, hd', X.method', hr', narrow]
    first | (intro acts; rw [hl _ acts rfl rfl rfl]) | rw [hl _ _ rfl rfl rfl]
    exact Steps.refl _)
/-- an array by a function of its places -/
def Arf (Z : State) (h : Heap) (a : Addr) (ad : String) (ty : FieldType) (z : Int32) (f : Nat → Value) : Prop := Exa Z h a ad ∧ ∃ c : Cell, Arr Z h a c ty ∧ c.slots.size = z.toNatClampNeg ∧ ¬ z < 0 ∧ ∀ i, i < c.slots.size → c.slots[i]? = some (f i) ∧ fits ty (f i) = true
def upd (f : Nat → Value) (j : Nat) (v : Value) : Nat → Value := fun i => if i = j then v else f i
theorem upd_same (f : Nat → Value) (j : Nat) (v : Value) : upd f j v j = v := by simp [upd]
theorem upd_other {f : Nat → Value} {j i : Nat} {v : Value} (q : i ≠ j) : upd f j v i = f i := by simp [upd, q]
variable {a b : Addr} {ad : String} {ty : FieldType} {z : Int32} {f : Nat → Value} {h' : Heap}
theorem Arf.lt (F : Arf Z h a ad ty z f) : a < h.size := F.1.lt
theorem Arf.exa (F : Arf Z h a ad ty z f) : Exa Z h a ad := F.1
theorem Arf.ext (F : Arf Z h a ad ty z f) (E : Ext h h') : Arf Z h' a ad ty z f := by
  obtain ⟨e, c, A, r⟩ := F; exact ⟨e.ext E, c, A.ext E, r⟩
theorem Arf.other {sl : Nat} {v : Value} (F : Arf Z h b ad ty z f) (W : Wr h h' a sl v) (q : b ≠ a) : Arf Z h' b ad ty z f := by
  obtain ⟨e, c, A, r⟩ := F; exact ⟨e.wr W, c, A.other W q, r⟩
theorem Arf.keep {ws : List Addr} (F : Arf Z h a ad ty z f) (K : Keep h h' ws) (q : a ∉ ws) : Arf Z h' a ad ty z f := by
  obtain ⟨e, c, A, r⟩ := F; exact ⟨e.keep K, c, ⟨K.2.1 _ _ A.1 q, A.2⟩, r⟩
theorem Arf.nn (F : Arf Z h a ad ty z f) : ¬ z < 0 := by obtain ⟨-, c, -, -, r, -⟩ := F; exact r
theorem Arf.fits (F : Arf Z h a ad ty z f) {i : Nat} (q : i < z.toNatClampNeg) : fits ty (f i) = true := by
  obtain ⟨-, c, -, S, -, r⟩ := F; exact (r i (by rw [S]; exact q)).2
theorem Arf.congr {g : Nat → Value} (F : Arf Z h a ad ty z f) (q : ∀ i, i < z.toNatClampNeg → f i = g i) : Arf Z h a ad ty z g := by
  obtain ⟨e, c, A, S, N, r⟩ := F; exact ⟨e, c, A, S, N, fun i hi => by rw [← q i (S ▸ hi)]; exact r i hi⟩
theorem Arf.set {j : Int32} {v : Value} (F : Arf Z h a ad ty z f) (W : Wr h h' a j.toNatClampNeg v) (hv : Jvm.fits ty v = true) (hj : ¬ j < 0) : Arf Z h' a ad ty z (upd f j.toNatClampNeg v) := by
  obtain ⟨e, c, A, S, N, r⟩ := F
  refine ⟨e.wr W, _, A.same W, by rw [sz_set]; exact S, N, fun i hi => ?_⟩
  rw [sz_set] at hi
  by_cases q : i = j.toNatClampNeg
  · subst q; refine ⟨?_, by rw [upd_same]; exact hv⟩
    rw [upd_same]; simp [Cell.setSlot, hi]
  · rw [upd_other q]; refine ⟨?_, (r i hi).2⟩
    rw [← (r i hi).1]; exact Array.getElem?_setIfInBounds_ne (Ne.symm q)
theorem nat_lt {j z : Int32} (h1 : ¬ j < 0) (h2 : j < z) : j.toNatClampNeg < z.toNatClampNeg := by
  rw [Int32.lt_iff_toInt_lt] at h1 h2
  have : (0 : Int32).toInt = 0 := rfl
  simp only [Int32.toNatClampNeg]; omega
theorem Arf.arv (F : Arf Z h a ad ty z f) (d : Value) : ∃ kc, Arv Z h a kc ty z ((List.range z.toNatClampNeg).map f) d := by
  obtain ⟨e, c, A, S, N, r⟩ := F
  refine ⟨c.cls, c, A, rfl, S, N, fun i hi => ?_, fun i hi => ?_⟩
  · rw [(r i hi).1]; rw [S] at hi; simp [List.getD, hi]
  · have q := (r i hi).2; rw [S] at hi; simpa [List.getD, hi] using q
theorem Arf.of_arv {kc : ClassId} {vs : List Value} {d : Value} (e : Exa Z h a ad) (V : Arv Z h a kc ty z vs d) : Arf Z h a ad ty z (fun i => vs.getD i d) := by
  obtain ⟨c, A, -, S, N, H, G⟩ := V
  exact ⟨e, c, A, S, N, fun i hi => ⟨H i hi, G i hi⟩⟩
theorem g_new (C : Cx w Z own bytes ml rt nm R n0 Q Y) {i : Nat} {cl : String} {m : Nat} (w1 : (Jvm.Cond.classLink own i cl).before a0 Z = true) (w2 : (Jvm.Cond.instantiable cl m).before a0 Z = true) (w3 : (Jvm.Cond.initialized cl).before a0 Z = true) (hd : decode bytes pc = .ok (.new i, 3)) (hp : pc + 3 = pc') {k' n' : Nat} (hk : k + 1 = k') (hn : n + m = n') (hc : k' ≤ R.cells) (hs : n' ≤ R.slots)
    (G : ∀ (h' : Heap) (b : Addr), Ext h h' → h.size ≤ b → n0 ≤ b → Exa Z h' b cl → (∀ {O nm d : String} {ty : FieldType}, Laid Z a0 cl O nm d → parseFieldDescriptor d = some ty → Fld Z h' b O nm d (defaultValue ty)) → Go w l R n0 Y h' k' n' pc' Ls (.ref b :: st)) : Go w l R n0 Y h k n pc Ls st := by
  subst hp hk hn
  intro T locs X hT hn N
  obtain ⟨T', h', X', e', E, A, D, -, s'⟩ := newO X C.hx C.hZ C.hown w1 w2 w3 hT (g := mkF w.m pc Ls st) rfl (C.d hd) hc hs
  obtain ⟨s₂, o, h1, h2⟩ := G h' _ E (Nat.le_refl _) hn.1 A D T' locs X' e' (own_grow hn E.1) N
  exact ⟨s₂, o, s' _ h1, h2⟩
theorem g_newarr (C : Cx w Z own bytes ml rt nm R n0 Q Y) {aty : ArrayType} {ad : String} {z : Int32} {cap : Nat} (w1 : (Jvm.Cond.arrayClass (newarray.typeOf aty)).before a0 Z = true) (hd : decode bytes pc = .ok (.newarray aty, 2)) (hp : pc + 2 = pc') (had : "[" ++ (newarray.typeOf aty).toString = ad) (hz : ¬ z < 0) (hcap : z.toNatClampNeg ≤ cap) (hb : cap * 8 ≤ 536870912) {k' n' : Nat} (hk : k + 1 = k') (hn : n + cap = n') (hc : k' ≤ R.cells) (hs : n' ≤ R.slots) (hfit : Jvm.fits (newarray.typeOf aty) (defaultValue (newarray.typeOf aty)) = true)
    (G : ∀ (h' : Heap) (b : Addr), Ext h h' → h.size ≤ b → n0 ≤ b → Arf Z h' b ad (newarray.typeOf aty) z (fun _ => defaultValue (newarray.typeOf aty)) → Go w l R n0 Y h' k' n' pc' Ls (.ref b :: rest)) : Go w l R n0 Y h k n pc Ls (.int z :: rest) := by
  subst hp hk hn
  intro T locs X hT hn N
  obtain ⟨T', h', cA, X', e', E, A, Ex, s'⟩ := newPE X C.hx C.hZ w1 hT (g := mkF w.m pc Ls (.int z :: rest)) rfl (C.d hd) rfl hz hcap hb hc hs had
  obtain ⟨s₂, o, h1, h2⟩ := G h' _ E (Nat.le_refl _) hn.1 ⟨Ex, _, A, sz_new _ _ _, hz, fun i hi => ⟨by rw [sz_new] at hi; simp [newA, hi], hfit⟩⟩ T' locs X' e' (own_grow hn E.1) N
  exact ⟨s₂, o, s' _ h1, h2⟩
theorem g_getF (C : Cx w Z own bytes ml rt nm R n0 Q Y) {R0 O nf d host : String} {i : Nat} {v : Value} (w1 : (Jvm.Cond.fieldLink own i R0 nf d).before a0 Z = true ∨ (Jvm.Cond.fieldLinkNest own i R0 nf d host).before a0 Z = true) (via : Via Z R0 O nf d) (F : Fld Z h a O nf d v) (hd : decode bytes pc = .ok (.getfield i, 3)) (hp : pc + 3 = pc')
    (G : Go w l R n0 Y h k n pc' Ls (v :: rest)) : Go w l R n0 Y h k n pc Ls (.ref a :: rest) := by
  subst hp
  intro T locs X hT hn N
  obtain ⟨T', X', e', s'⟩ := getF X C.hx C.hZ C.hown w1 via hT F (g := mkF w.m pc Ls (.ref a :: rest)) rfl rfl (C.d hd)
  obtain ⟨s₂, o, h1, h2⟩ := G T' locs X' e' hn N
  exact ⟨s₂, o, s' _ h1, h2⟩
theorem g_getS (C : Cx w Z own bytes ml rt nm R n0 Q Y) {R0 O nf d host : String} {i : Nat} {v : Value} (w1 : (Jvm.Cond.fieldLink own i R0 nf d).before a0 Z = true ∨ (Jvm.Cond.fieldLinkNest own i R0 nf d host).before a0 Z = true) (via : Via Z R0 O nf d) (F : Sta Z h O nf d v) (hd : decode bytes pc = .ok (.getstatic i, 3)) (hp : pc + 3 = pc')
    (G : Go w l R n0 Y h k n pc' Ls (v :: st)) : Go w l R n0 Y h k n pc Ls st := by
  subst hp
  intro T locs X hT hn N
  obtain ⟨T', X', e', s'⟩ := getS2 X C.hx C.hZ C.hown w1 via hT F (g := mkF w.m pc Ls st) rfl (C.d hd)
  obtain ⟨s₂, o, h1, h2⟩ := G T' locs X' e' hn N
  exact ⟨s₂, o, s' _ h1, h2⟩
theorem g_putF (C : Cx w Z own bytes ml rt nm R n0 Q Y) {R0 O nf d host cl : String} {i kk : Nat} {ty : FieldType} {v old : Value} (w1 : (Jvm.Cond.fieldLink own i R0 nf d).before a0 Z = true ∨ (Jvm.Cond.fieldLinkNest own i R0 nf d host).before a0 Z = true) (via : Via Z R0 O nf d) (F : Fld Z h a O nf d old) (E : Exa Z h a cl) (L : (Jvm.Cond.lays cl O nf d).before a0 Z = true ∨ ((Jvm.Cond.laysFinal cl O nf d).before a0 Z = true ∧ own = O ∧ nm = "<init>")) (wi : (Jvm.Cond.instantiable cl kk).before a0 Z = true)
    (hty : parseFieldDescriptor d = some ty) (hnr : narrow ty v = v) (hf : Jvm.fits ty v = true) (hd : decode bytes pc = .ok (.putfield i, 3)) (hp : pc + 3 = pc') (ha : n0 ≤ a)
    (G : ∀ h' : Heap, Wr h h' a (Jvm.RoadKit.slotOf Z O nf d) v → Go w l R n0 Y h' k n pc' Ls rest) : Go w l R n0 Y h k n pc Ls (v :: .ref a :: rest) := by
  subst hp
  intro T locs X hT hn N
  obtain ⟨T', h', X', e', W, s'⟩ := putF X C.hx C.hZ C.hown w1 via hT F E (L.imp id fun q => ⟨q.1, q.2.1, C.name.trans q.2.2⟩) wi hty hnr hf (g := mkF w.m pc Ls (v :: .ref a :: rest)) rfl rfl (C.d hd)
  obtain ⟨s₂, o, h1, h2⟩ := G h' W T' _ X' e' (by rw [W.size]; exact hn) (Fr.snoc X' N ha)
  exact ⟨s₂, o, s' _ h1, h2⟩
theorem g_putFN (C : Cx w Z own bytes ml rt nm R n0 Q Y) {R0 O nf d cl : String} {i kk : Nat} {ty : FieldType} {v v' old : Value} (w1 : (Jvm.Cond.fieldLink own i R0 nf d).before a0 Z = true) (via : Via Z R0 O nf d) (F : Fld Z h a O nf d old) (E : Exa Z h a cl) (L : (Jvm.Cond.lays cl O nf d).before a0 Z = true ∨ ((Jvm.Cond.laysFinal cl O nf d).before a0 Z = true ∧ own = O ∧ nm = "<init>")) (wi : (Jvm.Cond.instantiable cl kk).before a0 Z = true)
    (hty : parseFieldDescriptor d = some ty) (hnr : narrow ty v = v') (hf : Jvm.fits ty v' = true) (hd : decode bytes pc = .ok (.putfield i, 3)) (hp : pc + 3 = pc') (ha : n0 ≤ a)
    (G : ∀ h' : Heap, Wr h h' a (Jvm.RoadKit.slotOf Z O nf d) v' → Go w l R n0 Y h' k n pc' Ls rest) : Go w l R n0 Y h k n pc Ls (v :: .ref a :: rest) := by
  subst hp
  intro T locs X hT hn N
  obtain ⟨T', h', X', e', W, s'⟩ := putFN X C.hx C.hZ C.hown w1 via hT F E (L.imp id fun q => ⟨q.1, q.2.1, C.name.trans q.2.2⟩) wi hty hnr hf (g := mkF w.m pc Ls (v :: .ref a :: rest)) rfl rfl (C.d hd)
  obtain ⟨s₂, o, h1, h2⟩ := G h' W T' _ X' e' (by rw [W.size]; exact hn) (Fr.snoc X' N ha)
  exact ⟨s₂, o, s' _ h1, h2⟩
theorem g_bastore (C : Cx w Z own bytes ml rt nm R n0 Q Y) {j x : Int32} (F : Arf Z h a ad .byte z f) (hj : ¬ j < 0) (hz : j < z) (hd : decode bytes pc = .ok (.bastore, 1)) (hp : pc + 1 = pc') (ha : n0 ≤ a)
    (G : ∀ h' : Heap, Wr h h' a j.toNatClampNeg (.int (nar .byte x)) → Arf Z h' a ad .byte z (upd f j.toNatClampNeg (.int (nar .byte x))) → Go w l R n0 Y h' k n pc' Ls rest) : Go w l R n0 Y h k n pc Ls (.int x :: .int j :: .ref a :: rest) := by
  subst hp
  intro T locs X hT hn N
  obtain ⟨-, c, A, S, -⟩ := id F
  obtain ⟨T', h', X', e', W, s'⟩ := stB X C.hx C.hZ hT A (inb_of S ⟨hj, hz⟩) (g := mkF w.m pc Ls (.int x :: .int j :: .ref a :: rest)) rfl rfl (C.d hd)
  obtain ⟨s₂, o, h1, h2⟩ := G h' W (F.set W (fits_nar_byte _) hj) T' _ X' e' (by rw [W.size]; exact hn) (Fr.snoc X' N ha)
  exact ⟨s₂, o, s' _ h1, h2⟩
theorem g_zastore (C : Cx w Z own bytes ml rt nm R n0 Q Y) {j x : Int32} (F : Arf Z h a ad .boolean z f) (hj : ¬ j < 0) (hz : j < z) (hd : decode bytes pc = .ok (.bastore, 1)) (hp : pc + 1 = pc') (ha : n0 ≤ a)
    (G : ∀ h' : Heap, Wr h h' a j.toNatClampNeg (.int (nar .boolean x)) → Arf Z h' a ad .boolean z (upd f j.toNatClampNeg (.int (nar .boolean x))) → Go w l R n0 Y h' k n pc' Ls rest) : Go w l R n0 Y h k n pc Ls (.int x :: .int j :: .ref a :: rest) := by
  subst hp
  intro T locs X hT hn N
  obtain ⟨-, c, A, S, -⟩ := id F
  obtain ⟨T', h', X', e', W, s'⟩ := stZ X C.hx C.hZ hT A (inb_of S ⟨hj, hz⟩) (g := mkF w.m pc Ls (.int x :: .int j :: .ref a :: rest)) rfl rfl (C.d hd)
  obtain ⟨s₂, o, h1, h2⟩ := G h' W (F.set W (fits_nar_bool _) hj) T' _ X' e' (by rw [W.size]; exact hn) (Fr.snoc X' N ha)
  exact ⟨s₂, o, s' _ h1, h2⟩
theorem g_castore (C : Cx w Z own bytes ml rt nm R n0 Q Y) {j x : Int32} (F : Arf Z h a ad .char z f) (hj : ¬ j < 0) (hz : j < z) (hd : decode bytes pc = .ok (.castore, 1)) (hp : pc + 1 = pc') (ha : n0 ≤ a)
    (G : ∀ h' : Heap, Wr h h' a j.toNatClampNeg (.int (nar .char x)) → Arf Z h' a ad .char z (upd f j.toNatClampNeg (.int (nar .char x))) → Go w l R n0 Y h' k n pc' Ls rest) : Go w l R n0 Y h k n pc Ls (.int x :: .int j :: .ref a :: rest) := by
  subst hp
  intro T locs X hT hn N
  obtain ⟨-, c, A, S, -⟩ := id F
  obtain ⟨T', h', X', e', W, s'⟩ := stC X C.hx C.hZ hT A (inb_of S ⟨hj, hz⟩) (g := mkF w.m pc Ls (.int x :: .int j :: .ref a :: rest)) rfl rfl (C.d hd)
  obtain ⟨s₂, o, h1, h2⟩ := G h' W (F.set W (fits_nar_char _) hj) T' _ X' e' (by rw [W.size]; exact hn) (Fr.snoc X' N ha)
  exact ⟨s₂, o, s' _ h1, h2⟩
theorem g_iastore (C : Cx w Z own bytes ml rt nm R n0 Q Y) {j x : Int32} (F : Arf Z h a ad .int z f) (hj : ¬ j < 0) (hz : j < z) (hd : decode bytes pc = .ok (.iastore, 1)) (hp : pc + 1 = pc') (ha : n0 ≤ a)
    (G : ∀ h' : Heap, Wr h h' a j.toNatClampNeg (.int x) → Arf Z h' a ad .int z (upd f j.toNatClampNeg (.int x)) → Go w l R n0 Y h' k n pc' Ls rest) : Go w l R n0 Y h k n pc Ls (.int x :: .int j :: .ref a :: rest) := by
  subst hp
  intro T locs X hT hn N
  obtain ⟨-, c, A, S, -⟩ := id F
  obtain ⟨T', h', X', e', W, s'⟩ := stI X C.hx C.hZ hT A (inb_of S ⟨hj, hz⟩) (g := mkF w.m pc Ls (.int x :: .int j :: .ref a :: rest)) rfl rfl (C.d hd)
  obtain ⟨s₂, o, h1, h2⟩ := G h' W (F.set W (rfl) hj) T' _ X' e' (by rw [W.size]; exact hn) (Fr.snoc X' N ha)
  exact ⟨s₂, o, s' _ h1, h2⟩
theorem g_baload (C : Cx w Z own bytes ml rt nm R n0 Q Y) {j : Int32} {v : Value} (F : Arf Z h a ad .byte z f) (hj : ¬ j < 0) (hz : j < z) (hv : f j.toNatClampNeg = v) (hd : decode bytes pc = .ok (.baload, 1)) (hp : pc + 1 = pc')
    (G : Go w l R n0 Y h k n pc' Ls (v :: rest)) : Go w l R n0 Y h k n pc Ls (.int j :: .ref a :: rest) := by
  subst hp
  obtain ⟨-, c, A, S, -, r⟩ := F
  exact Go.stand (fun T t locs X hT K => X.baloadBytes C.hx (j := j) (v := v) (by rw [hT]; exact A.1) (State.isArrayOf_alike C.hZ.alike A.2.1) A.2.2 (inb_of S ⟨hj, hz⟩) (by rw [(r _ (by rw [S]; exact nat_lt hj hz)).1, hv]) (g := mkF w.m pc Ls (.int j :: .ref a :: rest)) rfl rfl (C.d hd) _ K) G
theorem g_zaload (C : Cx w Z own bytes ml rt nm R n0 Q Y) {j : Int32} {v : Value} (F : Arf Z h a ad .boolean z f) (hj : ¬ j < 0) (hz : j < z) (hv : f j.toNatClampNeg = v) (hd : decode bytes pc = .ok (.baload, 1)) (hp : pc + 1 = pc')
    (G : Go w l R n0 Y h k n pc' Ls (v :: rest)) : Go w l R n0 Y h k n pc Ls (.int j :: .ref a :: rest) := by
  subst hp
  obtain ⟨-, c, A, S, -, r⟩ := F
  exact Go.stand (fun T t locs X hT K => X.baloadBooleans C.hx (j := j) (v := v) (by rw [hT]; exact A.1) (State.isArrayOf_alike C.hZ.alike A.2.1) A.2.2 (inb_of S ⟨hj, hz⟩) (by rw [(r _ (by rw [S]; exact nat_lt hj hz)).1, hv]) (g := mkF w.m pc Ls (.int j :: .ref a :: rest)) rfl rfl (C.d hd) _ K) G
theorem g_caload (C : Cx w Z own bytes ml rt nm R n0 Q Y) {j : Int32} {v : Value} (F : Arf Z h a ad .char z f) (hj : ¬ j < 0) (hz : j < z) (hv : f j.toNatClampNeg = v) (hd : decode bytes pc = .ok (.caload, 1)) (hp : pc + 1 = pc')
    (G : Go w l R n0 Y h k n pc' Ls (v :: rest)) : Go w l R n0 Y h k n pc Ls (.int j :: .ref a :: rest) := by
  subst hp
  obtain ⟨-, c, A, S, -, r⟩ := F
  exact Go.stand (fun T t locs X hT K => X.caload C.hx (j := j) (v := v) (by rw [hT]; exact A.1) (State.isArrayOf_alike C.hZ.alike A.2.1) A.2.2 (inb_of S ⟨hj, hz⟩) (by rw [(r _ (by rw [S]; exact nat_lt hj hz)).1, hv]) (g := mkF w.m pc Ls (.int j :: .ref a :: rest)) rfl rfl (C.d hd) _ K) G
theorem g_iaload (C : Cx w Z own bytes ml rt nm R n0 Q Y) {j : Int32} {v : Value} (F : Arf Z h a ad .int z f) (hj : ¬ j < 0) (hz : j < z) (hv : f j.toNatClampNeg = v) (hd : decode bytes pc = .ok (.iaload, 1)) (hp : pc + 1 = pc')
    (G : Go w l R n0 Y h k n pc' Ls (v :: rest)) : Go w l R n0 Y h k n pc Ls (.int j :: .ref a :: rest) := by
  subst hp
  obtain ⟨-, c, A, S, -, r⟩ := F
  exact Go.stand (fun T t locs X hT K => X.iaload C.hx (j := j) (v := v) (by rw [hT]; exact A.1) (State.isArrayOf_alike C.hZ.alike A.2.1) A.2.2 (inb_of S ⟨hj, hz⟩) (by rw [(r _ (by rw [S]; exact nat_lt hj hz)).1, hv]) (g := mkF w.m pc Ls (.int j :: .ref a :: rest)) rfl rfl (C.d hd) _ K) G
theorem g_aaload (C : Cx w Z own bytes ml rt nm R n0 Q Y) {j : Int32} {v : Value} (hty : ty.isReference = true) (F : Arf Z h a ad ty z f) (hj : ¬ j < 0) (hz : j < z) (hv : f j.toNatClampNeg = v) (hd : decode bytes pc = .ok (.aaload, 1)) (hp : pc + 1 = pc')
    (G : Go w l R n0 Y h k n pc' Ls (v :: rest)) : Go w l R n0 Y h k n pc Ls (.int j :: .ref a :: rest) := by
  subst hp
  obtain ⟨-, c, A, S, -, r⟩ := F
  exact Go.stand (fun T t locs X hT K => X.aaload C.hx (j := j) (v := v) (by rw [hT]; exact A.1) (State.isArrayOf_alike C.hZ.alike A.2.1) hty A.2.2 (inb_of S ⟨hj, hz⟩) (by rw [(r _ (by rw [S]; exact nat_lt hj hz)).1, hv]) (g := mkF w.m pc Ls (.int j :: .ref a :: rest)) rfl rfl (C.d hd) _ K) G
theorem g_len (C : Cx w Z own bytes ml rt nm R n0 Q Y) (F : Arf Z h a ad ty z f) (hd : decode bytes pc = .ok (.arraylength, 1)) (hp : pc + 1 = pc') (G : Go w l R n0 Y h k n pc' Ls (.int z :: rest)) : Go w l R n0 Y h k n pc Ls (.ref a :: rest) := by
  subst hp
  obtain ⟨-, c, A, S, M, r⟩ := F
  refine Go.stand (fun T t locs X hT K => X.arraylength C.hx (by rw [hT]; exact A.1) (State.isArrayOf_alike C.hZ.alike A.2.1) (g := mkF w.m pc Ls (.ref a :: rest)) rfl rfl (C.d hd) _ ?_) G
  rw [len_of S M]; exact K
theorem g_cast (C : Cx w Z own bytes ml rt nm R n0 Q Y) {i : Nat} {cl : String} (w1 : (Jvm.Cond.classLink own i cl).before a0 Z = true) (I : Ins Z h a cl true) (hd : decode bytes pc = .ok (.checkcast i, 3)) (hp : pc + 3 = pc') (G : Go w l R n0 Y h k n pc' Ls (.ref a :: rest)) : Go w l R n0 Y h k n pc Ls (.ref a :: rest) := by
  subst hp
  intro T locs X hT hn N
  obtain ⟨T', X', e', s'⟩ := castY X C.hx C.hZ C.hown w1 hT I (g := mkF w.m pc Ls (.ref a :: rest)) rfl rfl (C.d hd)
  obtain ⟨s₂, o, h1, h2⟩ := G T' locs X' e' hn N
  exact ⟨s₂, o, s' _ h1, h2⟩
theorem g_castNull (C : Cx w Z own bytes ml rt nm R n0 Q Y) {i : Nat} (hd : decode bytes pc = .ok (.checkcast i, 3)) (hp : pc + 3 = pc') (G : Go w l R n0 Y h k n pc' Ls (.null :: rest)) : Go w l R n0 Y h k n pc Ls (.null :: rest) := by
  subst hp
  exact Go.stand (fun T t locs X hT K => X.checkcastNull C.hx (g := mkF w.m pc Ls (.null :: rest)) rfl rfl (C.d hd) _ K) G
theorem g_inst (C : Cx w Z own bytes ml rt nm R n0 Q Y) {i : Nat} {cl : String} (w1 : (Jvm.Cond.classLink own i cl).before a0 Z = true) (I : Ins Z h a cl true) (hd : decode bytes pc = .ok (.instanceof i, 3)) (hp : pc + 3 = pc') (G : Go w l R n0 Y h k n pc' Ls (.int 1 :: rest)) : Go w l R n0 Y h k n pc Ls (.ref a :: rest) := by
  subst hp
  intro T locs X hT hn N
  obtain ⟨T', X', e', s'⟩ := instY X C.hx C.hZ C.hown w1 hT I (g := mkF w.m pc Ls (.ref a :: rest)) rfl rfl (C.d hd)
  obtain ⟨s₂, o, h1, h2⟩ := G T' locs X' e' hn N
  exact ⟨s₂, o, s' _ h1, h2⟩
theorem g_initO (C : Cx w Z own bytes ml rt nm R n0 Q Y) {i : Nat} {W : Nat} (w1 : (Jvm.Cond.methodLink own i Lib.objectInit).before a0 Z = true) (w2 : (Jvm.Cond.instanceMethod Lib.objectInit).before a0 Z = true) (w3 : (Jvm.Cond.code Lib.objectInit ⟨#[0xb1]⟩ 1 none).before a0 Z = true) (hd : decode bytes pc = .ok (.invokespecial i, 3)) (hp : pc + 3 = pc') (hml : Ls.size = ml) (hf : 1 ≤ R.frames) (hW : (rest.map fun v => v.category).sum ≤ W) (hl : W + 12 ≤ R.locals)
    (G : Go w l R n0 Y h k n pc' Ls rest) : Go w l R n0 Y h k n pc Ls (.ref a :: rest) := by
  subst hp
  intro T locs X hT hn N
  obtain ⟨T', X', e', s'⟩ := initO X C.hx C.hZ C.hown w1 w2 w3 hT (g := mkF w.m pc Ls (.ref a :: rest)) rfl (by rw [C.hml]; exact hml) rfl (C.d hd) hf (W := W) (by simpa using hW) hl
  obtain ⟨s₂, o, h1, h2⟩ := G T' locs X' e' hn N
  exact ⟨s₂, o, s' _ h1, h2⟩
/-- what a callee's Back says here -/
abbrev PreB (R : Room) (h : Heap) (rm : Room) (as' : Array Value) : Pt → Array Value → Prop := fun A a => a = as' ∧ A.U.heap = h ∧ A.cells + rm.cells ≤ R.cells ∧ A.slots + rm.slots ≤ R.slots
abbrev PostB (n0 : Nat) (rm : Room) (Qc : Option Value → Heap → Prop) : Pt → Array Value → Option Value → Pt → Prop := fun A _ v B => ∃ L, (Qc v B.U.heap ∧ Fr n0 L ∧ A.U.heap.size ≤ B.U.heap.size) ∧ B.locs = A.locs ++ L ∧ B.cells = A.cells + rm.cells ∧ B.slots = A.slots + rm.slots
theorem Met.back {y : MethodName} {yb : ByteArray} {yl : Nat} {yr : Option FieldType} {rm : Room} {as' : Array Value} {Qc : Option Value → Heap → Prop} {W len : Nat} (M : Met l Z y yb yl yr rm n0 h as' Qc) (hn : n0 ≤ h.size) (hZ : Z.Warmed39 w.s.vm) (wc : (Jvm.Cond.code y yb yl yr).before a0 Z = true) (wz : (Jvm.Cond.initialized y.cls).before a0 Z = true) (hf : rm.frames + 1 ≤ R.frames) (hl : W + (yl + 11) + rm.locals ≤ R.locals) :
    Back l R w.p w.e w.below w.s w.as y len W (PreB R h rm as') (PostB n0 rm Qc) :=
  Back.mono (backOf (W := W) (Q := fun v h' L => Qc v h' ∧ Fr n0 L ∧ h.size ≤ h'.size) (M hn []) hZ wc wz hf hl) (fun P a hp => hp) (fun P a v B hp hq => by
    obtain ⟨L, q, r⟩ := hq
    exact ⟨L, ⟨q.1, q.2.1, by rw [hp.2.1]; exact q.2.2⟩, r⟩)
section Calls
variable {y y' : MethodName} {yb : ByteArray} {yl : Nat} {yr : Option FieldType} {rm : Room} {Qc : Option Value → Heap → Prop} {W i k' n' : Nat} {argsL : List Value} {cl : String}
theorem g_static (C : Cx w Z own bytes ml rt nm R n0 Q Y) (w1 : (Jvm.Cond.methodLink own i y).before a0 Z = true) (w2 : (Jvm.Cond.static y).before a0 Z = true) (w3 : (Jvm.Cond.initialized y.cls).before a0 Z = true) (w4 : (Jvm.Cond.code y yb yl yr).before a0 Z = true) (hy : y.cls ≠ "java/lang/invoke/MethodHandle" ∧ y.cls ≠ "java/lang/invoke/VarHandle")
    (hd : decode bytes pc = .ok (.invokestatic i, 3)) (hp : pc + 3 = pc') (hlen : ∀ sig, parseMethodDescriptor y.desc = some sig → argsL.length = sig.parameters.length) (hst : st = argsL.reverse ++ rest) (hW : (rest.map fun v => v.category).sum ≤ W) (hml : Ls.size = ml)
    (B : n0 ≤ h.size → Back l R w.p w.e w.below w.s w.as y 3 W (PreB R h rm argsL.toArray) (PostB n0 rm Qc)) (hk : k + rm.cells = k') (hn : n + rm.slots = n') (hc : k' ≤ R.cells) (hs : n' ≤ R.slots)
    (G : ∀ (v : Option Value) (h' : Heap), Qc v h' → Go w l R n0 Y h' k' n' pc' Ls (v.toList ++ rest)) : Go w l R n0 Y h k n pc Ls st := by
  subst hp hk hn
  intro T locs X hT hn N
  obtain ⟨v, vm₁, ⟨TB, LB, kB, nB⟩, -, X', ⟨L, hQ, l1, l2, l3⟩, s'⟩ := Jvm.LawKit.callS X C.hx C.hown (mvT C.hZ w1) (mvT C.hZ w2) (mvT C.hZ w3) (mvT C.hZ w4) hy (B hn.1) (g := mkF w.m pc Ls st) rfl (by rw [C.hml]; exact hml) (argsL := argsL) (rest := rest) hlen hst (by simpa using hW) (C.d hd) (fun vm₁ h₁ => ⟨rfl, hT, hc, hs⟩)
  dsimp only [Pt.U, Pt.locs, Pt.cells, Pt.slots] at X' l1 l2 l3 s' hQ
  subst l1 l2 l3
  obtain ⟨s₂, o, h1, h2⟩ := G v TB.heap hQ.1 TB _ X' rfl (own_grow hn (hT ▸ hQ.2.2)) (N.app hQ.2.1)
  exact ⟨s₂, o, s' _ h1, h2⟩
theorem g_special (C : Cx w Z own bytes ml rt nm R n0 Q Y) {yl0 : Nat} {yb0 : ByteArray} (hy1 : y.name = "<init>") (w1 : (Jvm.Cond.methodLink own i y).before a0 Z = true) (w2 : (Jvm.Cond.instanceMethod y).before a0 Z = true) (w4 : (Jvm.Cond.code y yb0 yl0 none).before a0 Z = true) (hy : y.cls ≠ "java/lang/invoke/MethodHandle" ∧ y.cls ≠ "java/lang/invoke/VarHandle")
    (hd : decode bytes pc = .ok (.invokespecial i, 3)) (hp : pc + 3 = pc') (hlen : ∀ sig, parseMethodDescriptor y.desc = some sig → argsL.length = sig.parameters.length) (hst : st = argsL.reverse ++ .ref a :: rest) (hW : (rest.map fun v => v.category).sum ≤ W) (hml : Ls.size = ml)
    (B : n0 ≤ h.size → Back l R w.p w.e w.below w.s w.as y 3 W (PreB R h rm (.ref a :: argsL).toArray) (PostB n0 rm Qc)) (hk : k + rm.cells = k') (hn : n + rm.slots = n') (hc : k' ≤ R.cells) (hs : n' ≤ R.slots)
    (G : ∀ (v : Option Value) (h' : Heap), Qc v h' → Go w l R n0 Y h' k' n' pc' Ls (v.toList ++ rest)) : Go w l R n0 Y h k n pc Ls st := by
  subst hp hk hn
  intro T locs X hT hn N
  obtain ⟨v, vm₁, ⟨TB, LB, kB, nB⟩, -, X', ⟨L, hQ, l1, l2, l3⟩, s'⟩ := X.specialBack C.hx hy1 C.hown (mvT C.hZ w1) (mvT C.hZ w2) (mvT C.hZ w4) hy (B hn.1) (g := mkF w.m pc Ls st) rfl (by rw [C.hml]; exact hml) (Steps.refl _) (a := a) (argsL := argsL) (rest := rest) hlen hst (by simpa using hW) (C.d hd) (fun vm₁ h₁ => ⟨rfl, hT, hc, hs⟩)
  dsimp only [Pt.U, Pt.locs, Pt.cells, Pt.slots] at X' l1 l2 l3 s' hQ
  subst l1 l2 l3
  obtain ⟨s₂, o, h1, h2⟩ := G v TB.heap hQ.1 TB _ X' rfl (own_grow hn (hT ▸ hQ.2.2)) (N.app hQ.2.1)
  exact ⟨s₂, o, s'.trans h1, h2⟩
theorem g_virtual (C : Cx w Z own bytes ml rt nm R n0 Q Y) (w1 : (Jvm.Cond.methodLink own i y).before a0 Z = true) (w2 : (Jvm.Cond.declares y).before a0 Z = true) (nf : NotFace w.s y) (w3 : (Jvm.Cond.selects cl y y').before a0 Z = true) (w4 : (Jvm.Cond.instanceMethod y').before a0 Z = true) (hy : y.cls ≠ "java/lang/invoke/MethodHandle" ∧ y.cls ≠ "java/lang/invoke/VarHandle") (E : Exa Z h a cl)
    (hd : decode bytes pc = .ok (.invokevirtual i, 3)) (hp : pc + 3 = pc') (hlen : ∀ sig, parseMethodDescriptor y.desc = some sig → argsL.length = sig.parameters.length) (hst : st = argsL.reverse ++ .ref a :: rest) (hW : (rest.map fun v => v.category).sum ≤ W) (hml : Ls.size = ml)
    (B : n0 ≤ h.size → Back l R w.p w.e w.below w.s w.as y' 3 W (PreB R h rm (.ref a :: argsL).toArray) (PostB n0 rm Qc)) (hk : k + rm.cells = k') (hn : n + rm.slots = n') (hc : k' ≤ R.cells) (hs : n' ≤ R.slots)
    (G : ∀ (v : Option Value) (h' : Heap), Qc v h' → Go w l R n0 Y h' k' n' pc' Ls (v.toList ++ rest)) : Go w l R n0 Y h k n pc Ls st := by
  subst hp hk hn
  intro T locs X hT hn N
  obtain ⟨cq, kq, qa, qb, qc⟩ := isOf C.hZ hT E
  obtain ⟨v, vm₁, ⟨TB, LB, kB, nB⟩, -, X', ⟨L, hQ, l1, l2, l3⟩, s'⟩ := X.virtualBack C.hx C.hown (mvT C.hZ w1) (mvT C.hZ w2) nf (mvT C.hZ w3) (mvT C.hZ w4) hy (B hn.1) qa qc (g := mkF w.m pc Ls st) rfl (by rw [C.hml]; exact hml) (Steps.refl _) (argsL := argsL) (rest := rest) hlen hst (by simpa using hW) (C.d hd) (fun vm₁ h₁ => ⟨rfl, hT, hc, hs⟩)
  dsimp only [Pt.U, Pt.locs, Pt.cells, Pt.slots] at X' l1 l2 l3 s' hQ
  subst l1 l2 l3
  obtain ⟨s₂, o, h1, h2⟩ := G v TB.heap hQ.1 TB _ X' rfl (own_grow hn (hT ▸ hQ.2.2)) (N.app hQ.2.1)
  exact ⟨s₂, o, s'.trans h1, h2⟩
theorem g_nf (C : Cx w Z own bytes ml rt nm R n0 Q Y) (w3 : (Jvm.Cond.selects cl y y).before a0 Z = true) : NotFace w.s y := notFace_of_selects (args := #[]) (mvT C.hZ w3)
theorem g_selPriv (C : Cx w Z own bytes ml rt nm R n0 Q Y) {yo : MethodName} (hc : yo.cls = y.cls) (w3 : (Jvm.Cond.selects yo.cls yo yo).before a0 Z = true) (w2 : (Jvm.Cond.instanceMethod y).before a0 Z = true) (w5 : (Jvm.Cond.privateMethod y).before a0 Z = true) (hy : y.cls ≠ "java/lang/invoke/MethodHandle" ∧ y.cls ≠ "java/lang/invoke/VarHandle") : (Jvm.Cond.selects y.cls y y).before w.as w.s = true := by
  have h3 : (Jvm.Cond.selects yo.cls yo yo).before w.as w.s = true := mvT C.hZ w3
  obtain ⟨c2, r2, m2, -, -, q3, -, kP, hkP, hkPi⟩ := Cond.selects_spec h3
  exact selects_self_of_private (c := m2.cls) (hc ▸ findClass_of_methodNamed q3) hkP hkPi (Cond.privateMethod_at (mvP C.hZ w5 (args := #[]))) (mvT C.hZ w2) hy
theorem g_private (C : Cx w Z own bytes ml rt nm R n0 Q Y) (w1 : (Jvm.Cond.methodLink own i y).before a0 Z = true) (w2 : (Jvm.Cond.instanceMethod y).before a0 Z = true) (w3 : (Jvm.Cond.selects y.cls y y).before w.as w.s = true) (w5 : (Jvm.Cond.privateMethod y).before a0 Z = true) (w4 : (Jvm.Cond.code y yb yl yr).before a0 Z = true) (hy : y.cls ≠ "java/lang/invoke/MethodHandle" ∧ y.cls ≠ "java/lang/invoke/VarHandle") (E : Exa Z h a cl)
    (hd : decode bytes pc = .ok (.invokevirtual i, 3)) (hp : pc + 3 = pc') (hlen : ∀ sig, parseMethodDescriptor y.desc = some sig → argsL.length = sig.parameters.length) (hst : st = argsL.reverse ++ .ref a :: rest) (hW : (rest.map fun v => v.category).sum ≤ W) (hml : Ls.size = ml)
    (B : n0 ≤ h.size → Back l R w.p w.e w.below w.s w.as y 3 W (PreB R h rm (.ref a :: argsL).toArray) (PostB n0 rm Qc)) (hk : k + rm.cells = k') (hn : n + rm.slots = n') (hc : k' ≤ R.cells) (hs : n' ≤ R.slots)
    (G : ∀ (v : Option Value) (h' : Heap), Qc v h' → Go w l R n0 Y h' k' n' pc' Ls (v.toList ++ rest)) : Go w l R n0 Y h k n pc Ls st := by
  subst hp hk hn
  intro T locs X hT hn N
  obtain ⟨cq, q1, q2⟩ := E.cell
  obtain ⟨v, vm₁, ⟨TB, LB, kB, nB⟩, -, X', ⟨L, hQ, l1, l2, l3⟩, s'⟩ := X.privateBack C.hx C.hown (mvT C.hZ w1) (mvT C.hZ w2) w3 (Cond.privateMethod_at (mvP C.hZ w5 (args := #[]))) (mvT C.hZ w4) hy (B hn.1) (g := mkF w.m pc Ls st) rfl (by rw [C.hml]; exact hml) (Steps.refl _) (a := a) (by rw [hT]; exact q1) q2 (argsL := argsL) (rest := rest) hlen hst (by simpa using hW) (C.d hd) (fun vm₁ h₁ => ⟨rfl, hT, hc, hs⟩)
  dsimp only [Pt.U, Pt.locs, Pt.cells, Pt.slots] at X' l1 l2 l3 s' hQ
  subst l1 l2 l3
  obtain ⟨s₂, o, h1, h2⟩ := G v TB.heap hQ.1 TB _ X' rfl (own_grow hn (hT ▸ hQ.2.2)) (N.app hQ.2.1)
  exact ⟨s₂, o, s'.trans h1, h2⟩
theorem g_iface (C : Cx w Z own bytes ml rt nm R n0 Q Y) {ct : Nat} (w1 : (Jvm.Cond.methodLink own i y).before a0 Z = true) (w2 : (Jvm.Cond.declares y).before a0 Z = true) (w3 : (Jvm.Cond.interfaceMethod y.cls y.cls y.name y.desc).before a0 Z = true) (fa : ((Jvm.Cond.interfaceMethod y.cls y.cls y.name y.desc).onTables && (Jvm.Cond.interfaceMethod y.cls y.cls y.name y.desc).keepsFace) = true) (w4 : (Jvm.Cond.selects cl y y').before a0 Z = true) (w5 : (Jvm.Cond.instanceMethod y').before a0 Z = true) (w6 : (Jvm.Cond.publicMethod y').before a0 Z = true) (w7 : (Jvm.Cond.unhidden cl y.name y.desc).before a0 Z = true) (w8 : (Jvm.Cond.castable cl y.cls).before a0 Z = true) (hy : y.cls ≠ "java/lang/invoke/MethodHandle" ∧ y.cls ≠ "java/lang/invoke/VarHandle") (E : Exa Z h a cl)
    (hd : decode bytes pc = .ok (.invokeinterface i ct, 5)) (hp : pc + 5 = pc') (hlen : ∀ sig, parseMethodDescriptor y.desc = some sig → argsL.length = sig.parameters.length) (hst : st = argsL.reverse ++ .ref a :: rest) (hW : (rest.map fun v => v.category).sum ≤ W) (hml : Ls.size = ml)
    (B : n0 ≤ h.size → Back l R w.p w.e w.below w.s w.as y' 5 W (PreB R h rm (.ref a :: argsL).toArray) (PostB n0 rm Qc)) (hk : k + rm.cells = k') (hn : n + rm.slots = n') (hc : k' ≤ R.cells) (hs : n' ≤ R.slots)
    (G : ∀ (v : Option Value) (h' : Heap), Qc v h' → Go w l R n0 Y h' k' n' pc' Ls (v.toList ++ rest)) : Go w l R n0 Y h k n pc Ls st := by
  subst hp hk hn
  intro T locs X hT hn N
  obtain ⟨cq, kq, qa, qb, qc⟩ := isOf C.hZ hT E
  obtain ⟨v, vm₁, ⟨TB, LB, kB, nB⟩, -, X', ⟨L, hQ, l1, l2, l3⟩, s'⟩ := X.interfaceBack C.hx C.hown (mvT C.hZ w1) (mvT C.hZ w2) (mvT C.hZ w3 fa) (mvT C.hZ w4) (mvT C.hZ w5) (mvT C.hZ w6) (mvT C.hZ w7) (mvT C.hZ w8) hy (B hn.1) qa qb qc (g := mkF w.m pc Ls st) rfl (by rw [C.hml]; exact hml) (Steps.refl _) (argsL := argsL) (rest := rest) hlen hst (by simpa using hW) (C.d hd) (fun vm₁ h₁ => ⟨rfl, hT, hc, hs⟩)
  dsimp only [Pt.U, Pt.locs, Pt.cells, Pt.slots] at X' l1 l2 l3 s' hQ
  subst l1 l2 l3
  obtain ⟨s₂, o, h1, h2⟩ := G v TB.heap hQ.1 TB _ X' rfl (own_grow hn (hT ▸ hQ.2.2)) (N.app hQ.2.1)
  exact ⟨s₂, o, s'.trans h1, h2⟩
end Calls
end OwnKit
section OwnKit2
variable {w : Wk} {l : Launch} {R : Room} {Z : State} {a0 : Array Value} {own : String} {bytes : ByteArray} {ml : Nat} {rt : Option FieldType} {nm : String} {n0 : Nat} {Q : Option Value → Heap → Prop} {Y : State → Outcome → Prop} {h : Heap} {k n pc pc' : Nat} {Ls Ls' : Array Slot} {st rest : List Value} {a b : Addr} {ad : String} {ty : FieldType} {z : Int32} {f : Nat → Value} {h' : Heap}
theorem own_getD (f : Nat → Value) (m i : Nat) (d : Value) (hi : i < m) : ((List.range m).map f).getD i d = f i := by simp [List.getD, hi]
theorem g_clone (C : Cx w Z own bytes ml rt nm R n0 Q Y) {i W cap k' n' : Nat} (w1 : (Jvm.Cond.methodLink own i ⟨ad, "clone", "()Ljava/lang/Object;"⟩).before a0 Z = true) (w2 : (Jvm.Cond.sameMethod ad "java/lang/Object" "clone" "()Ljava/lang/Object;").before a0 Z = true) (w3 : (Jvm.Cond.native ⟨"java/lang/Object", "clone", "()Ljava/lang/Object;"⟩).before a0 Z = true) (w4 : (Jvm.Cond.instanceMethod ⟨"java/lang/Object", "clone", "()Ljava/lang/Object;"⟩).before a0 Z = true) (w5 : (Jvm.Cond.selects ad ⟨ad, "clone", "()Ljava/lang/Object;"⟩ ⟨"java/lang/Object", "clone", "()Ljava/lang/Object;"⟩).before a0 Z = true) (w6 : (Jvm.Cond.castable ad "java/lang/Cloneable").before a0 Z = true)
    (F : Arf Z h a ad ty z f) (hd : decode bytes pc = .ok (.invokevirtual i, 3)) (hp : pc + 3 = pc') (hml : Ls.size = ml) (hf : 1 ≤ R.frames) (hW : (rest.map fun v => v.category).sum ≤ W) (hl : W + 14 ≤ R.locals) (hcap : z.toNatClampNeg ≤ cap) (hk : k + 1 = k') (hn : n + cap = n') (hc : k' ≤ R.cells) (hs : n' ≤ R.slots)
    (G : ∀ (h' : Heap) (b : Addr), Ext h h' → h.size ≤ b → n0 ≤ b → Arf Z h' b ad ty z f → Go w l R n0 Y h' k' n' pc' Ls (.ref b :: rest)) : Go w l R n0 Y h k n pc Ls (.ref a :: rest) := by
  subst hp hk hn
  intro T locs X hT hn N
  obtain ⟨kc, V⟩ := F.arv .null
  obtain ⟨T', h', X', e', E, A, Ex, s'⟩ := cloneH X C.hx C.hZ C.hown w1 w2 w3 w4 w5 w6 hT V.arh F.1 (g := mkF w.m pc Ls (.ref a :: rest)) rfl (by rw [C.hml]; exact hml) rfl (C.d hd) hf (W := W) (by simpa using hW) hl hcap hc hs
  have A' : Arv Z h' h.size kc ty z ((List.range z.toNatClampNeg).map f) .null := A
  obtain ⟨s₂, o, h1, h2⟩ := G h' _ E (Nat.le_refl _) hn.1 ((Arf.of_arv Ex A').congr fun i hi => own_getD _ _ _ _ hi) T' locs X' e' (own_grow hn E.1) N
  exact ⟨s₂, o, s' _ h1, h2⟩
theorem own_acopy_list (f g : Nat → Value) (n m dp sp : Nat) (h : dp + m ≤ n) (i : Nat) (hi : i < n) :
    ((((List.range n).map g).take dp ++ (List.range m).map (fun j => ((List.range (sp + m)).map f).getD (sp + j) .null)) ++ ((List.range n).map g).drop (dp + m)).getD i .null = if dp ≤ i ∧ i < dp + m then f (sp + (i - dp)) else g i := by
  have l1 : (((List.range n).map g).take dp).length = dp := by simp; omega
  by_cases c1 : i < dp
  · rw [if_neg (by omega)]
    simp only [List.getD, List.getElem?_append, l1, List.length_append, List.length_map, List.length_range]
    simp [c1, show i < dp + m by omega, hi, List.getElem?_take]
  · by_cases c2 : i < dp + m
    · rw [if_pos (by omega)]
      simp only [List.getD, List.getElem?_append, l1, List.length_append, List.length_map, List.length_range]
      simp [c1, c2, show i - dp < m by omega, show sp + (i - dp) < sp + m by omega]
    · rw [if_neg (by omega)]
      simp only [List.getD, List.getElem?_append, l1, List.length_append, List.length_map, List.length_range]
      simp [c2, List.getElem?_drop, show dp + m + (i - (dp + m)) = i by omega, hi]
theorem g_acopy (C : Cx w Z own bytes ml rt nm R n0 Q Y) {i W : Nat} {ad' : String} {g : Nat → Value} {z' sp dp m : Int32} (w1 : (Jvm.Cond.methodLink own i Jvm.Stand.acN).before a0 Z = true) (w2 : (Jvm.Cond.native Jvm.Stand.acN).before a0 Z = true) (w3 : (Jvm.Cond.static Jvm.Stand.acN).before a0 Z = true) (w4 : (Jvm.Cond.initialized "java/lang/System").before a0 Z = true)
    (A : Arf Z h a ad ty z f) (B : Arf Z h b ad' ty z' g) (hty : refKind ty = false) (h1 : ¬ sp < 0) (h2 : ¬ dp < 0) (h3 : ¬ m < 0) (h4 : sp.toNatClampNeg + m.toNatClampNeg ≤ z.toNatClampNeg) (h5 : dp.toNatClampNeg + m.toNatClampNeg ≤ z'.toNatClampNeg) (ge : n0 ≤ b)
    (hd : decode bytes pc = .ok (.invokestatic i, 3)) (hp : pc + 3 = pc') (hml : Ls.size = ml) (hf : 1 ≤ R.frames) (hW : (rest.map fun v => v.category).sum ≤ W) (hl : W + 18 ≤ R.locals)
    (G : ∀ h' : Heap, Keep h h' [b] → Arf Z h' b ad' ty z' (fun i => if dp.toNatClampNeg ≤ i ∧ i < dp.toNatClampNeg + m.toNatClampNeg then f (sp.toNatClampNeg + (i - dp.toNatClampNeg)) else g i) → Go w l R n0 Y h' k n pc' Ls rest) : Go w l R n0 Y h k n pc Ls (.int m :: .int dp :: .ref b :: .int sp :: .ref a :: rest) := by
  subst hp
  intro T locs X hT hn N
  obtain ⟨kc, V⟩ := A.arv .null
  obtain ⟨kd, U⟩ := B.arv .null
  obtain ⟨T', h', L, X', e', N', K, A', s'⟩ := cpA X C.hx C.hZ C.hown w1 w2 w3 w4 hT V U (Or.inl ⟨rfl, hty⟩) h1 h2 h3 h4 h5 rfl (by simpa using h5) N ge (g := mkF w.m pc Ls (.int m :: .int dp :: .ref b :: .int sp :: .ref a :: rest)) rfl (by rw [C.hml]; exact hml) rfl (C.d hd) hf (W := W) (by simpa using hW) (by rw [show nativeFrameWords "java/lang/System" "arraycopy" 5 = 7 from by decide]; exact hl)
  have F := (Arf.of_arv (B.1.keep K) A')
  have F' : Arf Z h' b ad' ty z' (fun i => if dp.toNatClampNeg ≤ i ∧ i < dp.toNatClampNeg + m.toNatClampNeg then f (sp.toNatClampNeg + (i - dp.toNatClampNeg)) else g i) := by
    refine F.congr fun i hi => ?_
    show _ = if dp.toNatClampNeg ≤ i ∧ i < dp.toNatClampNeg + m.toNatClampNeg then f (sp.toNatClampNeg + (i - dp.toNatClampNeg)) else g i
    rw [← own_acopy_list f g z'.toNatClampNeg m.toNatClampNeg dp.toNatClampNeg sp.toNatClampNeg h5 i hi]
    congr 2
    congr 1
    apply List.map_congr_left
    intro j hj
    have hj' := List.mem_range.mp hj
    rw [own_getD _ _ _ _ (by omega), own_getD _ _ _ _ (by omega)]
  obtain ⟨s₂, o, g1, g2⟩ := G h' K F' T' L X' e' (own_grow hn K.1) N'
  exact ⟨s₂, o, s' _ g1, g2⟩
end OwnKit2
theorem n32_toInt {n : Nat} (h : n < 2147483648) : (Int32.ofNat n).toInt = n := Int32.toInt_ofNat_of_lt (by omega)
theorem n32_nat {n : Nat} (h : n < 2147483648) : (Int32.ofNat n).toNatClampNeg = n := by rw [Int32.toNatClampNeg, n32_toInt h]; rfl
theorem n32_nn {n : Nat} (h : n < 2147483648) : ¬ Int32.ofNat n < 0 := by
  rw [Int32.lt_iff_toInt_lt, n32_toInt h, show (0 : Int32).toInt = 0 from rfl]; omega
theorem n32_lt {i n : Nat} (h : i < n) (hn : n < 2147483648) : Int32.ofNat i < Int32.ofNat n := by
  rw [Int32.lt_iff_toInt_lt, n32_toInt hn, n32_toInt (by omega)]; omega
theorem n32_ge {i n : Nat} (h : n ≤ i) (hn : i < 2147483648) : ¬ Int32.ofNat i < Int32.ofNat n := by
  rw [Int32.lt_iff_toInt_lt, n32_toInt hn, n32_toInt (by omega)]; omega
theorem n32_succ (i : Nat) : Int32.ofNat i + (1 : Int32) = Int32.ofNat (i + 1) := (Int32.ofNat_add i 1).symm
theorem n32_of {z : Int32} (h : ¬ z < 0) : z = Int32.ofNat z.toNatClampNeg := by
  rw [Int32.lt_iff_toInt_lt, show (0 : Int32).toInt = 0 from rfl] at h
  have r := rng32 z
  rw [← Int32.toInt_inj, n32_toInt (by simp only [Int32.toNatClampNeg]; omega)]
  simp only [Int32.toNatClampNeg]; omega
theorem n32_lit {z : Int32} {n : Nat} (h : z.toInt = n) : z.toNatClampNeg = n := by simp only [Int32.toNatClampNeg]; omega

theorem d1_0 : decode prog_11_method_2_code 0 = .ok (.aload_n 0, 1) := by decide +kernel
theorem d1_1 : decode prog_11_method_2_code 1 = .ok (.arraylength, 1) := by decide +kernel
theorem d1_2 : decode prog_11_method_2_code 2 = .ok (.ldc 9, 2) := by decide +kernel
theorem d1_4 : decode prog_11_method_2_code 4 = .ok (.if_icmp .le 18, 3) := by decide +kernel
theorem d1_22 : decode prog_11_method_2_code 22 = .ok (.iconst 2, 1) := by decide +kernel
theorem d1_23 : decode prog_11_method_2_code 23 = .ok (.aload_n 0, 1) := by decide +kernel
theorem d1_24 : decode prog_11_method_2_code 24 = .ok (.arraylength, 1) := by decide +kernel
theorem d1_25 : decode prog_11_method_2_code 25 = .ok (.iadd, 1) := by decide +kernel
theorem d1_26 : decode prog_11_method_2_code 26 = .ok (.newarray .byte, 2) := by decide +kernel
theorem d1_28 : decode prog_11_method_2_code 28 = .ok (.astore_n 1, 1) := by decide +kernel
theorem d1_29 : decode prog_11_method_2_code 29 = .ok (.aload_n 1, 1) := by decide +kernel
theorem d1_30 : decode prog_11_method_2_code 30 = .ok (.iconst 0, 1) := by decide +kernel
theorem d1_31 : decode prog_11_method_2_code 31 = .ok (.aload_n 0, 1) := by decide +kernel
theorem d1_32 : decode prog_11_method_2_code 32 = .ok (.arraylength, 1) := by decide +kernel
theorem d1_33 : decode prog_11_method_2_code 33 = .ok (.bipush 8, 2) := by decide +kernel
theorem d1_35 : decode prog_11_method_2_code 35 = .ok (.iushr, 1) := by decide +kernel
theorem d1_36 : decode prog_11_method_2_code 36 = .ok (.i2b, 1) := by decide +kernel
theorem d1_37 : decode prog_11_method_2_code 37 = .ok (.bastore, 1) := by decide +kernel
theorem d1_38 : decode prog_11_method_2_code 38 = .ok (.aload_n 1, 1) := by decide +kernel
theorem d1_39 : decode prog_11_method_2_code 39 = .ok (.iconst 1, 1) := by decide +kernel
theorem d1_40 : decode prog_11_method_2_code 40 = .ok (.aload_n 0, 1) := by decide +kernel
theorem d1_41 : decode prog_11_method_2_code 41 = .ok (.arraylength, 1) := by decide +kernel
theorem d1_42 : decode prog_11_method_2_code 42 = .ok (.i2b, 1) := by decide +kernel
theorem d1_43 : decode prog_11_method_2_code 43 = .ok (.bastore, 1) := by decide +kernel
theorem d1_44 : decode prog_11_method_2_code 44 = .ok (.aload_n 0, 1) := by decide +kernel
theorem d1_45 : decode prog_11_method_2_code 45 = .ok (.iconst 0, 1) := by decide +kernel
theorem d1_46 : decode prog_11_method_2_code 46 = .ok (.aload_n 1, 1) := by decide +kernel
theorem d1_47 : decode prog_11_method_2_code 47 = .ok (.iconst 2, 1) := by decide +kernel
theorem d1_48 : decode prog_11_method_2_code 48 = .ok (.aload_n 0, 1) := by decide +kernel
theorem d1_49 : decode prog_11_method_2_code 49 = .ok (.arraylength, 1) := by decide +kernel
theorem d1_50 : decode prog_11_method_2_code 50 = .ok (.invokestatic 19, 3) := by decide +kernel
theorem d1_53 : decode prog_11_method_2_code 53 = .ok (.aload_n 1, 1) := by decide +kernel
theorem d1_54 : decode prog_11_method_2_code 54 = .ok (.areturn, 1) := by decide +kernel
theorem pd_0 : parseMethodDescriptor "([B)[B" = some ⟨[(.array .byte)], some (.array .byte)⟩ := by decide +kernel
theorem own_i0 : (0 : Int32).toInt = 0 := rfl
theorem own_bb (x : Int32) : nar .byte x.toInt8.toInt32 = x.toInt8.toInt32 := by
  have a := c_i2b x
  have b := c_i2b x.toInt8.toInt32
  show x.toInt8.toInt32.toInt8.toInt32 = x.toInt8.toInt32
  rw [← Int32.toInt_inj]; omega
theorem own_bx {x y : Int32} (h : (x.toInt - y.toInt) % 256 = 0) : nar .byte x.toInt8.toInt32 = y.toInt8.toInt32 := by
  rw [own_bb]
  have a := c_i2b x
  have b := c_i2b y
  rw [← Int32.toInt_inj]; omega
theorem own_nz {z : Int32} (h : 0 < z) : z ≠ 0 := fun e => by subst e; exact absurd h (by decide)
theorem own_hi {z : Int32} (h : z.toNatClampNeg ≤ 65535) : ¬ (65535 : Int32) < z := by
  rw [Int32.lt_iff_toInt_lt, show (65535 : Int32).toInt = 65535 from rfl]; simp only [Int32.toNatClampNeg] at h; omega
theorem own_2 {z : Int32} (h0 : ¬ z < 0) (h : z.toNatClampNeg ≤ 65535) : ((2 : Int32) + z).toInt = z.toInt + 2 ∧ 0 ≤ z.toInt ∧ z.toInt ≤ 65535 := by
  have r := c_iadd 2 z
  have r2 := rng32 (2 + z)
  rw [Int32.lt_iff_toInt_lt, own_i0] at h0
  simp only [Int32.toNatClampNeg] at h
  have e : (2 : Int32).toInt = 2 := rfl
  omega
theorem own_2n {z : Int32} (h0 : ¬ z < 0) (h : z.toNatClampNeg ≤ 65535) : ¬ (2 : Int32) + z < 0 ∧ ((2 : Int32) + z).toNatClampNeg = z.toNatClampNeg + 2 := by
  have a := own_2 h0 h
  rw [Int32.lt_iff_toInt_lt, own_i0]; simp only [Int32.toNatClampNeg]; omega
theorem own_2l {z i : Int32} (h0 : ¬ z < 0) (h : z.toNatClampNeg ≤ 65535) (hi : i.toInt ≤ 1) : i < (2 : Int32) + z := by
  have a := own_2 h0 h
  rw [Int32.lt_iff_toInt_lt]; omega
theorem own_mask (x : Int32) : ¬ (x &&& 65535) < 0 ∧ (x &&& 65535).toNatClampNeg ≤ 65535 := by
  have m := c_mask x 65535 16 (by decide) (by decide)
  have e : ((2 ^ 16 : Nat) : Int) = 65536 := rfl
  rw [e] at m
  rw [Int32.lt_iff_toInt_lt, own_i0]; simp only [Int32.toNatClampNeg]; omega
theorem own_rem (x z : Int32) (h : 0 < z) : ¬ ((x &&& 2147483647) % z) < 0 ∧ ((x &&& 2147483647) % z) < z := by
  have m := c_mask x 2147483647 31 (by decide) (by decide)
  have e : ((2 ^ 31 : Nat) : Int) = 2147483648 := rfl
  rw [e] at m
  rw [Int32.lt_iff_toInt_lt, own_i0] at h
  have q := (c_iremV (x &&& 2147483647) z).1 (by omega) h
  rw [Int32.lt_iff_toInt_lt, Int32.lt_iff_toInt_lt, own_i0]; omega
theorem own_ni {i j : Int32} (hi : ¬ i < 0) (hj : ¬ j < 0) : i.toNatClampNeg = j.toNatClampNeg ↔ i = j := by
  rw [Int32.lt_iff_toInt_lt, own_i0] at hi hj
  rw [← Int32.toInt_inj]; simp only [Int32.toNatClampNeg]; omega
/-- the message's bytes -/
def own_m (i j b c : Int32) : Nat → Value := upd (upd (fun _ => .int 0) i.toNatClampNeg (.int (nar .byte b.toInt8.toInt32))) j.toNatClampNeg (.int (nar .byte c.toInt8.toInt32))
theorem own_mk (i j k b c : Int32) (hi : ¬ i < 0) (hj : ¬ j < 0) (hk : ¬ k < 0) : own_m i j b c k.toNatClampNeg = .int (if k = j then c.toInt8.toInt32 else if k = i then b.toInt8.toInt32 else 0) := by
  unfold own_m upd
  simp only [own_ni hk hj, own_ni hk hi, own_bb]
  by_cases p : k = j
  · simp [p]
  · by_cases q : k = i
    · rw [if_neg p, if_neg p, if_pos q, if_pos q]
    · rw [if_neg p, if_neg p, if_neg q, if_neg q]
/-- the frame's bytes -/
def own_g (z : Int32) (f : Nat → Value) : Nat → Value := fun i => if 2 ≤ i ∧ i < 2 + z.toNatClampNeg then f (0 + (i - 2)) else upd (upd (fun _ => .int 0) 0 (.int (nar .byte ((z.toUInt32 >>> ((8 : Int32) &&& 31).toUInt32).toInt32).toInt8.toInt32))) 1 (.int (nar .byte z.toInt8.toInt32)) i
theorem own_g0 {z : Int32} (h0 : ¬ z < 0) (f : Nat → Value) : own_g z f 0 = .int (z / 256).toInt8.toInt32 := by
  rw [Int32.lt_iff_toInt_lt, own_i0] at h0
  have a := c_iushr z 8 8 (by decide) (by decide)
  have b := (c_idiv z 256 256 rfl (by decide)).1 (by omega)
  have r := rng32 z
  have e : ((2 ^ 8 : Nat) : Int) = 256 := rfl
  rw [e] at a
  have q : nar .byte ((z.toUInt32 >>> ((8 : Int32) &&& 31).toUInt32).toInt32).toInt8.toInt32 = (z / 256).toInt8.toInt32 := own_bx (by omega)
  rw [← q, own_g, if_neg (by omega)]; rfl
theorem own_g1 {z : Int32} (h0 : ¬ z < 0) (f : Nat → Value) : own_g z f 1 = .int (z % 256).toInt8.toInt32 := by
  rw [Int32.lt_iff_toInt_lt, own_i0] at h0
  have b := (c_irem z 256 256 rfl).1 (by omega)
  have q : nar .byte z.toInt8.toInt32 = (z % 256).toInt8.toInt32 := own_bx (by omega)
  rw [← q, own_g, if_neg (by omega)]; rfl
theorem own_2i {z i : Int32} (h0 : ¬ z < 0) (h : z.toNatClampNeg ≤ 65535) (hi : ¬ i < 0) (hl : i < z) : ¬ (2 : Int32) + i < 0 ∧ (2 : Int32) + i < (2 : Int32) + z ∧ ((2 : Int32) + i).toNatClampNeg = 2 + i.toNatClampNeg ∧ i.toNatClampNeg < z.toNatClampNeg := by
  have a := own_2 h0 h
  rw [Int32.lt_iff_toInt_lt] at hl
  rw [Int32.lt_iff_toInt_lt, own_i0] at hi
  have b := own_2 (z := i) (by rw [Int32.lt_iff_toInt_lt, own_i0]; exact hi) (by simp only [Int32.toNatClampNeg]; omega)
  rw [Int32.lt_iff_toInt_lt, Int32.lt_iff_toInt_lt, own_i0]; simp only [Int32.toNatClampNeg]; omega
theorem own_gi {z i : Int32} (h0 : ¬ z < 0) (h : z.toNatClampNeg ≤ 65535) (hi : ¬ i < 0) (hl : i < z) {f : Nat → Value} {v : Value} (hv : f i.toNatClampNeg = v) : own_g z f ((2 : Int32) + i).toNatClampNeg = v := by
  have a := own_2i h0 h hi hl
  rw [a.2.2.1, own_g, if_pos (by omega), ← hv]; congr 1; omega
def R_m1 : Room := ({ frames := 1, cells := 1, slots := 65537, locals := 18 } : Room)
set_option maxRecDepth 65536 in
set_option maxHeartbeats 40000000 in
theorem m1 {l : Launch} {Z : State} {a0 : Array Value} (hw : ∀ d ∈ tables_1, d.before a0 Z = true) {h0 : Heap} {n0 : Nat} (a : Addr) (z : Int32) (f : Nat → Value) (A : Arf Z h0 a "[B" .byte z f) (h0z : ¬ z < 0) (hz : z.toNatClampNeg ≤ 65535) :
    Met l Z (⟨"com/example/longhaul/longhaul/Frames", "frame", "([B)[B"⟩ : MethodName) prog_11_method_2_code 2 (some (.array .byte)) R_m1 n0 h0 #[(.ref a)] (fun v h => ∃ b : Addr, v = some (.ref b) ∧ h0.size ≤ b ∧ n0 ≤ b ∧ Keep h0 h [] ∧ Arf Z h b "[B" .byte ((2 : Int32) + z) (own_g z f)) := by
  refine Met.intro (plainFor_of_name (by first | (simp [plainName, overriddenIn, x]; done) | decide +kernel)) (fun m => (show entryFrame m #[(.ref a)] 2 = mkF m 0 #[.val (.ref a), .unset] [] from by first | rfl | (simp [entryFrame, mkF, argsToLocals, Value.category]; done))) (fun w Y C => ?_)
  have K := Keep.refl h0 []
  refine g_aloadN C d1_0 (pc' := 1) rfl rfl rfl ?_
  refine g_len C A d1_1 (pc' := 2) rfl ?_
  refine g_ldcI C (hw _ (List.mem_of_getElem? (i := 6) rfl)) d1_2 (pc' := 4) rfl ?_
  refine g_icmp_le C d1_4 (by decide) (pc' := 22) (by decide) (pcN := 7) rfl (fun _ => ?_) (fun q => absurd q (own_hi hz))
  refine g_iconst C (z := (2 : Int32)) d1_22 (pc' := 23) rfl rfl ?_
  refine g_aloadN C d1_23 (pc' := 24) rfl rfl rfl ?_
  refine g_len C A d1_24 (pc' := 25) rfl ?_
  refine g_iadd C d1_25 (pc' := 26) rfl ?_
  refine g_newarr C (ad := "[B") (cap := 65537) (hw _ (List.mem_of_getElem? (i := 1) rfl)) d1_26 (pc' := 28) rfl rfl (own_2n h0z hz).1 (by rw [(own_2n h0z hz).2]; omega) (by decide) (k' := 1) (n' := 65537) rfl rfl (by decide) (by decide) rfl ?_
  intro h1 b1 E1 fb1 gb1 A1
  have ne_a_b1 : a ≠ b1 := Nat.ne_of_lt (Nat.lt_of_lt_of_le A.lt fb1)
  have sz_b1 : h0.size ≤ b1 := Nat.le_trans K.1 fb1
  have A := A.ext E1
  have K := K.ext E1
  have A1 : Arf Z h1 b1 "[B" .byte ((2 : Int32) + z) (fun _ => (.int 0)) := A1
  refine g_astoreN C d1_28 (pc' := 29) rfl rfl (Ls' := #[.val (.ref a), .val (.ref b1)]) rfl ?_
  refine g_aloadN C d1_29 (pc' := 30) rfl rfl rfl ?_
  refine g_iconst C (z := (0 : Int32)) d1_30 (pc' := 31) rfl rfl ?_
  refine g_aloadN C d1_31 (pc' := 32) rfl rfl rfl ?_
  refine g_len C A d1_32 (pc' := 33) rfl ?_
  refine g_bipush C (z := (8 : Int32)) d1_33 (pc' := 35) rfl rfl ?_
  refine g_iushr C d1_35 (pc' := 36) rfl ?_
  refine g_i2b C d1_36 (pc' := 37) rfl ?_
  refine g_bastore C A1 (by decide) (own_2l h0z hz (by decide)) d1_37 (pc' := 38) rfl gb1 (fun h2 W3 A1' => ?_)
  have A := A.other W3 ne_a_b1
  have K := K.wr W3 (Or.inr sz_b1)
  have A1 : Arf Z h2 b1 "[B" .byte ((2 : Int32) + z) (upd (fun _ => (.int 0)) 0 (.int (nar .byte (((z.toUInt32 >>> ((8 : Int32) &&& 31).toUInt32).toInt32).toInt8.toInt32)))) := A1'
  refine g_aloadN C d1_38 (pc' := 39) rfl rfl rfl ?_
  refine g_iconst C (z := (1 : Int32)) d1_39 (pc' := 40) rfl rfl ?_
  refine g_aloadN C d1_40 (pc' := 41) rfl rfl rfl ?_
  refine g_len C A d1_41 (pc' := 42) rfl ?_
  refine g_i2b C d1_42 (pc' := 43) rfl ?_
  refine g_bastore C A1 (by decide) (own_2l h0z hz (by decide)) d1_43 (pc' := 44) rfl gb1 (fun h4 W5 A1' => ?_)
  have A := A.other W5 ne_a_b1
  have K := K.wr W5 (Or.inr sz_b1)
  have A1 : Arf Z h4 b1 "[B" .byte ((2 : Int32) + z) (upd (upd (fun _ => (.int 0)) 0 (.int (nar .byte (((z.toUInt32 >>> ((8 : Int32) &&& 31).toUInt32).toInt32).toInt8.toInt32)))) 1 (.int (nar .byte (z.toInt8.toInt32)))) := A1'
  refine g_aloadN C d1_44 (pc' := 45) rfl rfl rfl ?_
  refine g_iconst C (z := (0 : Int32)) d1_45 (pc' := 46) rfl rfl ?_
  refine g_aloadN C d1_46 (pc' := 47) rfl rfl rfl ?_
  refine g_iconst C (z := (2 : Int32)) d1_47 (pc' := 48) rfl rfl ?_
  refine g_aloadN C d1_48 (pc' := 49) rfl rfl rfl ?_
  refine g_len C A d1_49 (pc' := 50) rfl ?_
  refine g_acopy C (W := 0) (hw _ (List.mem_of_getElem? (i := 7) rfl)) (hw _ (List.mem_of_getElem? (i := 10) rfl)) (hw _ (List.mem_of_getElem? (i := 8) rfl)) (hw _ (List.mem_of_getElem? (i := 9) rfl)) A A1 rfl (by decide) (by decide) h0z (by rw [show (0 : Int32).toNatClampNeg = 0 from rfl]; omega) (by rw [(own_2n h0z hz).2, show (2 : Int32).toNatClampNeg = 2 from rfl]; omega) gb1 d1_50 (pc' := 53) rfl rfl (by decide) (Nat.le_of_eq rfl) (by decide) (fun h6 K7 A1' => ?_)
  have A := A.keep K7 (ninS ne_a_b1 nin0)
  have K := K.trans K7 (allS (Or.inr sz_b1) all0)
  have A1 : Arf Z h6 b1 "[B" .byte ((2 : Int32) + z) (fun i => if 2 ≤ i ∧ i < 2 + z.toNatClampNeg then f (0 + (i - 2)) else (upd (upd (fun _ => (.int 0)) 0 (.int (nar .byte (((z.toUInt32 >>> ((8 : Int32) &&& 31).toUInt32).toInt32).toInt8.toInt32)))) 1 (.int (nar .byte (z.toInt8.toInt32)))) i) := A1'
  refine g_aloadN C d1_53 (pc' := 54) rfl rfl rfl ?_
  exact g_retA C rfl (t := (.array .byte)) rfl rfl d1_54 ⟨b1, rfl, sz_b1, gb1, K, A1⟩ (by decide) (by decide)
set_option maxRecDepth 65536 in
set_option maxHeartbeats 40000000 in
theorem seg123 {l : Launch} {Z : State} {a0 : Array Value} (hw : ∀ d ∈ tables_1, d.before a0 Z = true) {w : Wk} {n0 : Nat} {h0 : Heap} {Y : State → Outcome → Prop} (p0 p1 p2 p3 p4 p5 z i j k eI eJ eK : Int32) (a : Addr) (f : Nat → Value) (C : Cx w Z "com/example/longhaul/longhaul/FramesFramePinLaw" code 15 (some .boolean) "law" room_1 n0 (fun v _ => v = some (.int 1)) Y) (A : Arf Z h0 a "[B" .byte z f) (ga : n0 ≤ a) (h0z : ¬ z < 0) (hz : z.toNatClampNeg ≤ 65535) (H : 0 < z → (¬ i < 0 ∧ i < z ∧ f i.toNatClampNeg = .int eI) ∧ (¬ j < 0 ∧ j < z ∧ f j.toNatClampNeg = .int eJ) ∧ (¬ k < 0 ∧ k < z ∧ f k.toNatClampNeg = .int eK)) :
    Go w l room_1 n0 Y h0 1 65535 123 #[.val (.int p0), .val (.int p1), .val (.int p2), .val (.int p3), .val (.int p4), .val (.int p5), .val (.int z), .val (.ref a), .val (.int i), .val (.int j), .val (.int k), .val (.int eI), .val (.int eJ), .val (.int eK), .unset] [] := by
  refine g_aload C at_123 (pc' := 125) rfl rfl rfl ?_
  refine g_static (rm := R_m1) C (y := (⟨"com/example/longhaul/longhaul/Frames", "frame", "([B)[B"⟩ : MethodName)) (hw _ (List.mem_of_getElem? (i := 2) rfl)) (hw _ (List.mem_of_getElem? (i := 3) rfl)) (hw _ (List.mem_of_getElem? (i := 4) rfl)) (hw _ (List.mem_of_getElem? (i := 5) rfl)) (by decide) at_125 (pc' := 128) rfl (argsL := [(.ref a)]) (rest := []) (lenOf pd_0 rfl) rfl (W := 0) (Nat.le_of_eq rfl) rfl (fun hn => Met.back (rm := R_m1) (m1 hw a z f A h0z hz) hn C.hZ (hw _ (List.mem_of_getElem? (i := 5) rfl)) (hw _ (List.mem_of_getElem? (i := 4) rfl)) (by decide) (by decide)) (k' := 2) (n' := 131072) rfl rfl (by decide) (by decide) ?_
  rintro _ h8 ⟨bb, rfl, fbb, gbb, Kf, Ab⟩
  have ne_a_bb : a ≠ bb := Nat.ne_of_lt (Nat.lt_of_lt_of_le A.lt fbb)
  have A := A.keep Kf nin0
  show Go w l _ n0 _ h8 2 131072 128 #[.val (.int p0), .val (.int p1), .val (.int p2), .val (.int p3), .val (.int p4), .val (.int p5), .val (.int z), .val (.ref a), .val (.int i), .val (.int j), .val (.int k), .val (.int eI), .val (.int eJ), .val (.int eK), .unset] [(.ref bb)]
  refine g_astore C at_128 (pc' := 130) rfl rfl (Ls' := #[.val (.int p0), .val (.int p1), .val (.int p2), .val (.int p3), .val (.int p4), .val (.int p5), .val (.int z), .val (.ref a), .val (.int i), .val (.int j), .val (.int k), .val (.int eI), .val (.int eJ), .val (.int eK), .val (.ref bb)]) rfl ?_
  refine g_aload C at_130 (pc' := 132) rfl rfl rfl ?_
  refine g_len C Ab at_132 (pc' := 133) rfl ?_
  refine g_iload C at_133 (pc' := 135) rfl rfl ?_
  refine g_iconst C (z := (2 : Int32)) at_135 (pc' := 136) rfl rfl ?_
  refine g_iadd C at_136 (pc' := 137) rfl ?_
  refine g_icmp_eq C at_137 (by decide) (pc' := 142) (by decide) (pcN := 140) rfl (fun _ => ?_) (fun q => absurd (Int32.add_comm 2 z) q)
  refine g_aload C at_142 (pc' := 144) rfl rfl rfl ?_
  refine g_iconst C (z := (0 : Int32)) at_144 (pc' := 145) rfl rfl ?_
  refine g_baload C (v := (.int ((z / (256 : Int32)).toInt8.toInt32))) Ab (by decide) (own_2l h0z hz (by decide)) (own_g0 h0z f) at_145 (pc' := 146) rfl ?_
  refine g_iload C at_146 (pc' := 148) rfl rfl ?_
  refine g_sipush C (z := (256 : Int32)) at_148 (pc' := 151) rfl rfl ?_
  refine g_idiv C at_151 (pc' := 152) rfl (by decide) ?_
  refine g_i2b C at_152 (pc' := 153) rfl ?_
  refine g_icmp_ne C at_153 (by decide) (pc' := 170) (by decide) (pcN := 156) rfl (fun q => absurd rfl q) (fun _ => ?_)
  refine g_aload C at_156 (pc' := 158) rfl rfl rfl ?_
  refine g_iconst C (z := (1 : Int32)) at_158 (pc' := 159) rfl rfl ?_
  refine g_baload C (v := (.int ((z % (256 : Int32)).toInt8.toInt32))) Ab (by decide) (own_2l h0z hz (by decide)) (own_g1 h0z f) at_159 (pc' := 160) rfl ?_
  refine g_iload C at_160 (pc' := 162) rfl rfl ?_
  refine g_sipush C (z := (256 : Int32)) at_162 (pc' := 165) rfl rfl ?_
  refine g_irem C at_165 (pc' := 166) rfl (by decide) ?_
  refine g_i2b C at_166 (pc' := 167) rfl ?_
  refine g_icmp_eq C at_167 (by decide) (pc' := 172) (by decide) (pcN := 170) rfl (fun _ => ?_) (fun q => absurd rfl q)
  refine g_iload C at_172 (pc' := 174) rfl rfl ?_
  refine g_if_le C at_174 (by decide) (pc' := 247) (by decide) (pcN := 177) rfl (fun q174 => ?_) (fun q174 => ?_)
  · refine g_iconst C (z := (1 : Int32)) at_247 (pc' := 248) rfl rfl ?_
    exact g_retN C (t := .boolean) rfl (by simp) at_248 rfl (by decide) (by decide)
  · refine g_aload C at_177 (pc' := 179) rfl rfl rfl ?_
    refine g_iload C at_179 (pc' := 181) rfl rfl ?_
    refine g_baload C (v := (.int eI)) A (H q174).1.1 (H q174).1.2.1 (H q174).1.2.2 at_181 (pc' := 182) rfl ?_
    refine g_iload C at_182 (pc' := 184) rfl rfl ?_
    refine g_icmp_ne C at_184 (by decide) (pc' := 207) (by decide) (pcN := 187) rfl (fun q => absurd rfl q) (fun _ => ?_)
    refine g_aload C at_187 (pc' := 189) rfl rfl rfl ?_
    refine g_iload C at_189 (pc' := 191) rfl rfl ?_
    refine g_baload C (v := (.int eJ)) A (H q174).2.1.1 (H q174).2.1.2.1 (H q174).2.1.2.2 at_191 (pc' := 192) rfl ?_
    refine g_iload C at_192 (pc' := 194) rfl rfl ?_
    refine g_icmp_ne C at_194 (by decide) (pc' := 207) (by decide) (pcN := 197) rfl (fun q => absurd rfl q) (fun _ => ?_)
    refine g_aload C at_197 (pc' := 199) rfl rfl rfl ?_
    refine g_iload C at_199 (pc' := 201) rfl rfl ?_
    refine g_baload C (v := (.int eK)) A (H q174).2.2.1 (H q174).2.2.2.1 (H q174).2.2.2.2 at_201 (pc' := 202) rfl ?_
    refine g_iload C at_202 (pc' := 204) rfl rfl ?_
    refine g_icmp_eq C at_204 (by decide) (pc' := 209) (by decide) (pcN := 207) rfl (fun _ => ?_) (fun q => absurd rfl q)
    refine g_aload C at_209 (pc' := 211) rfl rfl rfl ?_
    refine g_iconst C (z := (2 : Int32)) at_211 (pc' := 212) rfl rfl ?_
    refine g_iload C at_212 (pc' := 214) rfl rfl ?_
    refine g_iadd C at_214 (pc' := 215) rfl ?_
    refine g_baload C (v := (.int eI)) Ab (own_2i h0z hz (H q174).1.1 (H q174).1.2.1).1 (own_2i h0z hz (H q174).1.1 (H q174).1.2.1).2.1 (own_gi h0z hz (H q174).1.1 (H q174).1.2.1 (H q174).1.2.2) at_215 (pc' := 216) rfl ?_
    refine g_iload C at_216 (pc' := 218) rfl rfl ?_
    refine g_icmp_ne C at_218 (by decide) (pc' := 245) (by decide) (pcN := 221) rfl (fun q => absurd rfl q) (fun _ => ?_)
    refine g_aload C at_221 (pc' := 223) rfl rfl rfl ?_
    refine g_iconst C (z := (2 : Int32)) at_223 (pc' := 224) rfl rfl ?_
    refine g_iload C at_224 (pc' := 226) rfl rfl ?_
    refine g_iadd C at_226 (pc' := 227) rfl ?_
    refine g_baload C (v := (.int eJ)) Ab (own_2i h0z hz (H q174).2.1.1 (H q174).2.1.2.1).1 (own_2i h0z hz (H q174).2.1.1 (H q174).2.1.2.1).2.1 (own_gi h0z hz (H q174).2.1.1 (H q174).2.1.2.1 (H q174).2.1.2.2) at_227 (pc' := 228) rfl ?_
    refine g_iload C at_228 (pc' := 230) rfl rfl ?_
    refine g_icmp_ne C at_230 (by decide) (pc' := 245) (by decide) (pcN := 233) rfl (fun q => absurd rfl q) (fun _ => ?_)
    refine g_aload C at_233 (pc' := 235) rfl rfl rfl ?_
    refine g_iconst C (z := (2 : Int32)) at_235 (pc' := 236) rfl rfl ?_
    refine g_iload C at_236 (pc' := 238) rfl rfl ?_
    refine g_iadd C at_238 (pc' := 239) rfl ?_
    refine g_baload C (v := (.int eK)) Ab (own_2i h0z hz (H q174).2.2.1 (H q174).2.2.2.1).1 (own_2i h0z hz (H q174).2.2.1 (H q174).2.2.2.1).2.1 (own_gi h0z hz (H q174).2.2.1 (H q174).2.2.2.1 (H q174).2.2.2.2) at_239 (pc' := 240) rfl ?_
    refine g_iload C at_240 (pc' := 242) rfl rfl ?_
    refine g_icmp_eq C at_242 (by decide) (pc' := 247) (by decide) (pcN := 245) rfl (fun _ => ?_) (fun q => absurd rfl q)
    refine g_iconst C (z := (1 : Int32)) at_247 (pc' := 248) rfl rfl ?_
    exact g_retN C (t := .boolean) rfl (by simp) at_248 rfl (by decide) (by decide)
set_option maxRecDepth 65536 in
set_option maxHeartbeats 40000000 in
theorem seg54 {l : Launch} {Z : State} {a0 : Array Value} (hw : ∀ d ∈ tables_1, d.before a0 Z = true) {w : Wk} {n0 : Nat} {h0 : Heap} {Y : State → Outcome → Prop} (p0 p1 p2 p3 p4 p5 z i j k : Int32) (a : Addr) (C : Cx w Z "com/example/longhaul/longhaul/FramesFramePinLaw" code 15 (some .boolean) "law" room_1 n0 (fun v _ => v = some (.int 1)) Y) (A : Arf Z h0 a "[B" .byte z (fun _ => .int 0)) (ga : n0 ≤ a) (h0z : ¬ z < 0) (hz : z.toNatClampNeg ≤ 65535) (hi : ¬ i < 0 ∧ i < z) (hj : ¬ j < 0 ∧ j < z) (hk : ¬ k < 0 ∧ k < z) :
    Go w l room_1 n0 Y h0 1 65535 54 #[.val (.int p0), .val (.int p1), .val (.int p2), .val (.int p3), .val (.int p4), .val (.int p5), .val (.int z), .val (.ref a), .val (.int i), .val (.int j), .val (.int k), .unset, .unset, .unset, .unset] [] := by
  refine g_aload C at_54 (pc' := 56) rfl rfl rfl ?_
  refine g_iload C at_56 (pc' := 58) rfl rfl ?_
  refine g_iloadN C at_58 (pc' := 59) rfl rfl ?_
  refine g_i2b C at_59 (pc' := 60) rfl ?_
  refine g_bastore C A hi.1 hi.2 at_60 (pc' := 61) rfl ga (fun h9 W10 A' => ?_)
  have A : Arf Z h9 a "[B" .byte z (upd (fun _ => .int 0) i.toNatClampNeg (.int (nar .byte (p2.toInt8.toInt32)))) := A'
  refine g_aload C at_61 (pc' := 63) rfl rfl rfl ?_
  refine g_iload C at_63 (pc' := 65) rfl rfl ?_
  refine g_iload C at_65 (pc' := 67) rfl rfl ?_
  refine g_i2b C at_67 (pc' := 68) rfl ?_
  refine g_bastore C A hj.1 hj.2 at_68 (pc' := 69) rfl ga (fun h11 W12 A' => ?_)
  have A : Arf Z h11 a "[B" .byte z (upd (upd (fun _ => .int 0) i.toNatClampNeg (.int (nar .byte (p2.toInt8.toInt32)))) j.toNatClampNeg (.int (nar .byte (p4.toInt8.toInt32)))) := A'
  refine g_iload C at_69 (pc' := 71) rfl rfl ?_
  refine g_iload C at_71 (pc' := 73) rfl rfl ?_
  refine g_icmp_ne C at_73 (by decide) (pc' := 82) (by decide) (pcN := 76) rfl (fun q73 => ?_) (fun q73 => ?_)
  · refine g_iloadN C at_82 (pc' := 83) rfl rfl ?_
    refine g_i2b C at_83 (pc' := 84) rfl ?_
    refine g_istore C at_84 (pc' := 86) rfl (Ls' := #[.val (.int p0), .val (.int p1), .val (.int p2), .val (.int p3), .val (.int p4), .val (.int p5), .val (.int z), .val (.ref a), .val (.int i), .val (.int j), .val (.int k), .val (.int (p2.toInt8.toInt32)), .unset, .unset, .unset]) rfl ?_
    refine g_iload C at_86 (pc' := 88) rfl rfl ?_
    refine g_i2b C at_88 (pc' := 89) rfl ?_
    refine g_istore C at_89 (pc' := 91) rfl (Ls' := #[.val (.int p0), .val (.int p1), .val (.int p2), .val (.int p3), .val (.int p4), .val (.int p5), .val (.int z), .val (.ref a), .val (.int i), .val (.int j), .val (.int k), .val (.int (p2.toInt8.toInt32)), .val (.int (p4.toInt8.toInt32)), .unset, .unset]) rfl ?_
    refine g_iload C at_91 (pc' := 93) rfl rfl ?_
    refine g_iload C at_93 (pc' := 95) rfl rfl ?_
    refine g_icmp_ne C at_95 (by decide) (pc' := 106) (by decide) (pcN := 98) rfl (fun q95 => ?_) (fun q95 => ?_)
    · refine g_iload C at_106 (pc' := 108) rfl rfl ?_
      refine g_iload C at_108 (pc' := 110) rfl rfl ?_
      refine g_icmp_ne C at_110 (by decide) (pc' := 120) (by decide) (pcN := 113) rfl (fun q110 => ?_) (fun q110 => ?_)
      · refine g_iconst C (z := (0 : Int32)) at_120 (pc' := 121) rfl rfl ?_
        refine g_istore C at_121 (pc' := 123) rfl (Ls' := #[.val (.int p0), .val (.int p1), .val (.int p2), .val (.int p3), .val (.int p4), .val (.int p5), .val (.int z), .val (.ref a), .val (.int i), .val (.int j), .val (.int k), .val (.int (p2.toInt8.toInt32)), .val (.int (p4.toInt8.toInt32)), .val (.int (0 : Int32)), .unset]) rfl ?_
        exact seg123 (C := C) hw p0 p1 p2 p3 p4 p5 z i j k (p2.toInt8.toInt32) (p4.toInt8.toInt32) (0 : Int32) a (own_m i j p2 p4) A ga h0z hz (fun _ => ⟨⟨hi.1, hi.2, (own_mk i j i p2 p4 hi.1 hj.1 hi.1).trans (by rw [if_neg q73, if_pos rfl])⟩, ⟨hj.1, hj.2, (own_mk i j j p2 p4 hi.1 hj.1 hj.1).trans (by rw [if_pos rfl])⟩, ⟨hk.1, hk.2, (own_mk i j k p2 p4 hi.1 hj.1 hk.1).trans (by rw [if_neg q95, if_neg q110])⟩⟩)
      · refine g_iloadN C at_113 (pc' := 114) rfl rfl ?_
        refine g_i2b C at_114 (pc' := 115) rfl ?_
        refine g_istore C at_115 (pc' := 117) rfl (Ls' := #[.val (.int p0), .val (.int p1), .val (.int p2), .val (.int p3), .val (.int p4), .val (.int p5), .val (.int z), .val (.ref a), .val (.int i), .val (.int j), .val (.int k), .val (.int (p2.toInt8.toInt32)), .val (.int (p4.toInt8.toInt32)), .val (.int (p2.toInt8.toInt32)), .unset]) rfl ?_
        refine g_goto C at_117 (by decide) (pc' := 123) (by decide) ?_
        exact seg123 (C := C) hw p0 p1 p2 p3 p4 p5 z i j k (p2.toInt8.toInt32) (p4.toInt8.toInt32) (p2.toInt8.toInt32) a (own_m i j p2 p4) A ga h0z hz (fun _ => ⟨⟨hi.1, hi.2, (own_mk i j i p2 p4 hi.1 hj.1 hi.1).trans (by rw [if_neg q73, if_pos rfl])⟩, ⟨hj.1, hj.2, (own_mk i j j p2 p4 hi.1 hj.1 hj.1).trans (by rw [if_pos rfl])⟩, ⟨hk.1, hk.2, (own_mk i j k p2 p4 hi.1 hj.1 hk.1).trans (by rw [if_neg q95, if_pos q110])⟩⟩)
    · refine g_iload C at_98 (pc' := 100) rfl rfl ?_
      refine g_i2b C at_100 (pc' := 101) rfl ?_
      refine g_istore C at_101 (pc' := 103) rfl (Ls' := #[.val (.int p0), .val (.int p1), .val (.int p2), .val (.int p3), .val (.int p4), .val (.int p5), .val (.int z), .val (.ref a), .val (.int i), .val (.int j), .val (.int k), .val (.int (p2.toInt8.toInt32)), .val (.int (p4.toInt8.toInt32)), .val (.int (p4.toInt8.toInt32)), .unset]) rfl ?_
      refine g_goto C at_103 (by decide) (pc' := 123) (by decide) ?_
      exact seg123 (C := C) hw p0 p1 p2 p3 p4 p5 z i j k (p2.toInt8.toInt32) (p4.toInt8.toInt32) (p4.toInt8.toInt32) a (own_m i j p2 p4) A ga h0z hz (fun _ => ⟨⟨hi.1, hi.2, (own_mk i j i p2 p4 hi.1 hj.1 hi.1).trans (by rw [if_neg q73, if_pos rfl])⟩, ⟨hj.1, hj.2, (own_mk i j j p2 p4 hi.1 hj.1 hj.1).trans (by rw [if_pos rfl])⟩, ⟨hk.1, hk.2, (own_mk i j k p2 p4 hi.1 hj.1 hk.1).trans (by rw [if_pos q95])⟩⟩)
  · refine g_iload C at_76 (pc' := 78) rfl rfl ?_
    refine g_i2b C at_78 (pc' := 79) rfl ?_
    refine g_goto C at_79 (by decide) (pc' := 84) (by decide) ?_
    refine g_istore C at_84 (pc' := 86) rfl (Ls' := #[.val (.int p0), .val (.int p1), .val (.int p2), .val (.int p3), .val (.int p4), .val (.int p5), .val (.int z), .val (.ref a), .val (.int i), .val (.int j), .val (.int k), .val (.int (p4.toInt8.toInt32)), .unset, .unset, .unset]) rfl ?_
    refine g_iload C at_86 (pc' := 88) rfl rfl ?_
    refine g_i2b C at_88 (pc' := 89) rfl ?_
    refine g_istore C at_89 (pc' := 91) rfl (Ls' := #[.val (.int p0), .val (.int p1), .val (.int p2), .val (.int p3), .val (.int p4), .val (.int p5), .val (.int z), .val (.ref a), .val (.int i), .val (.int j), .val (.int k), .val (.int (p4.toInt8.toInt32)), .val (.int (p4.toInt8.toInt32)), .unset, .unset]) rfl ?_
    refine g_iload C at_91 (pc' := 93) rfl rfl ?_
    refine g_iload C at_93 (pc' := 95) rfl rfl ?_
    refine g_icmp_ne C at_95 (by decide) (pc' := 106) (by decide) (pcN := 98) rfl (fun q95 => ?_) (fun q95 => ?_)
    · refine g_iload C at_106 (pc' := 108) rfl rfl ?_
      refine g_iload C at_108 (pc' := 110) rfl rfl ?_
      refine g_icmp_ne C at_110 (by decide) (pc' := 120) (by decide) (pcN := 113) rfl (fun q110 => ?_) (fun q110 => ?_)
      · refine g_iconst C (z := (0 : Int32)) at_120 (pc' := 121) rfl rfl ?_
        refine g_istore C at_121 (pc' := 123) rfl (Ls' := #[.val (.int p0), .val (.int p1), .val (.int p2), .val (.int p3), .val (.int p4), .val (.int p5), .val (.int z), .val (.ref a), .val (.int i), .val (.int j), .val (.int k), .val (.int (p4.toInt8.toInt32)), .val (.int (p4.toInt8.toInt32)), .val (.int (0 : Int32)), .unset]) rfl ?_
        exact seg123 (C := C) hw p0 p1 p2 p3 p4 p5 z i j k (p4.toInt8.toInt32) (p4.toInt8.toInt32) (0 : Int32) a (own_m i j p2 p4) A ga h0z hz (fun _ => ⟨⟨hi.1, hi.2, (own_mk i j i p2 p4 hi.1 hj.1 hi.1).trans (by rw [if_pos q73])⟩, ⟨hj.1, hj.2, (own_mk i j j p2 p4 hi.1 hj.1 hj.1).trans (by rw [if_pos rfl])⟩, ⟨hk.1, hk.2, (own_mk i j k p2 p4 hi.1 hj.1 hk.1).trans (by rw [if_neg q95, if_neg q110])⟩⟩)
      · refine g_iloadN C at_113 (pc' := 114) rfl rfl ?_
        refine g_i2b C at_114 (pc' := 115) rfl ?_
        refine g_istore C at_115 (pc' := 117) rfl (Ls' := #[.val (.int p0), .val (.int p1), .val (.int p2), .val (.int p3), .val (.int p4), .val (.int p5), .val (.int z), .val (.ref a), .val (.int i), .val (.int j), .val (.int k), .val (.int (p4.toInt8.toInt32)), .val (.int (p4.toInt8.toInt32)), .val (.int (p2.toInt8.toInt32)), .unset]) rfl ?_
        refine g_goto C at_117 (by decide) (pc' := 123) (by decide) ?_
        exact seg123 (C := C) hw p0 p1 p2 p3 p4 p5 z i j k (p4.toInt8.toInt32) (p4.toInt8.toInt32) (p2.toInt8.toInt32) a (own_m i j p2 p4) A ga h0z hz (fun _ => ⟨⟨hi.1, hi.2, (own_mk i j i p2 p4 hi.1 hj.1 hi.1).trans (by rw [if_pos q73])⟩, ⟨hj.1, hj.2, (own_mk i j j p2 p4 hi.1 hj.1 hj.1).trans (by rw [if_pos rfl])⟩, ⟨hk.1, hk.2, (own_mk i j k p2 p4 hi.1 hj.1 hk.1).trans (by rw [if_neg q95, if_pos q110])⟩⟩)
    · refine g_iload C at_98 (pc' := 100) rfl rfl ?_
      refine g_i2b C at_100 (pc' := 101) rfl ?_
      refine g_istore C at_101 (pc' := 103) rfl (Ls' := #[.val (.int p0), .val (.int p1), .val (.int p2), .val (.int p3), .val (.int p4), .val (.int p5), .val (.int z), .val (.ref a), .val (.int i), .val (.int j), .val (.int k), .val (.int (p4.toInt8.toInt32)), .val (.int (p4.toInt8.toInt32)), .val (.int (p4.toInt8.toInt32)), .unset]) rfl ?_
      refine g_goto C at_103 (by decide) (pc' := 123) (by decide) ?_
      exact seg123 (C := C) hw p0 p1 p2 p3 p4 p5 z i j k (p4.toInt8.toInt32) (p4.toInt8.toInt32) (p4.toInt8.toInt32) a (own_m i j p2 p4) A ga h0z hz (fun _ => ⟨⟨hi.1, hi.2, (own_mk i j i p2 p4 hi.1 hj.1 hi.1).trans (by rw [if_pos q73])⟩, ⟨hj.1, hj.2, (own_mk i j j p2 p4 hi.1 hj.1 hj.1).trans (by rw [if_pos rfl])⟩, ⟨hk.1, hk.2, (own_mk i j k p2 p4 hi.1 hj.1 hk.1).trans (by rw [if_pos q95])⟩⟩)
set_option maxRecDepth 65536 in
set_option maxHeartbeats 40000000 in
theorem seg6 {l : Launch} {Z : State} {a0 : Array Value} (hw : ∀ d ∈ tables_1, d.before a0 Z = true) {w : Wk} {n0 : Nat} {h0 : Heap} {Y : State → Outcome → Prop} (p0 p1 p2 p3 p4 p5 z : Int32) (C : Cx w Z "com/example/longhaul/longhaul/FramesFramePinLaw" code 15 (some .boolean) "law" room_1 n0 (fun v _ => v = some (.int 1)) Y) (h0z : ¬ z < 0) (hz : z.toNatClampNeg ≤ 65535) :
    Go w l room_1 n0 Y h0 0 0 6 #[.val (.int p0), .val (.int p1), .val (.int p2), .val (.int p3), .val (.int p4), .val (.int p5), .val (.int z), .unset, .unset, .unset, .unset, .unset, .unset, .unset, .unset] [] := by
  refine g_iload C at_6 (pc' := 8) rfl rfl ?_
  refine g_newarr C (ad := "[B") (cap := 65535) (hw _ (List.mem_of_getElem? (i := 1) rfl)) at_8 (pc' := 10) rfl rfl h0z hz (by decide) (k' := 1) (n' := 65535) rfl rfl (by decide) (by decide) rfl ?_
  intro h13 b13 E13 fb13 gb13 A13
  have A13 : Arf Z h13 b13 "[B" .byte z (fun _ => (.int 0)) := A13
  refine g_astore C at_10 (pc' := 12) rfl rfl (Ls' := #[.val (.int p0), .val (.int p1), .val (.int p2), .val (.int p3), .val (.int p4), .val (.int p5), .val (.int z), .val (.ref b13), .unset, .unset, .unset, .unset, .unset, .unset, .unset]) rfl ?_
  refine g_iconst C (z := (0 : Int32)) at_12 (pc' := 13) rfl rfl ?_
  refine g_istore C at_13 (pc' := 15) rfl (Ls' := #[.val (.int p0), .val (.int p1), .val (.int p2), .val (.int p3), .val (.int p4), .val (.int p5), .val (.int z), .val (.ref b13), .val (.int (0 : Int32)), .unset, .unset, .unset, .unset, .unset, .unset]) rfl ?_
  refine g_iconst C (z := (0 : Int32)) at_15 (pc' := 16) rfl rfl ?_
  refine g_istore C at_16 (pc' := 18) rfl (Ls' := #[.val (.int p0), .val (.int p1), .val (.int p2), .val (.int p3), .val (.int p4), .val (.int p5), .val (.int z), .val (.ref b13), .val (.int (0 : Int32)), .val (.int (0 : Int32)), .unset, .unset, .unset, .unset, .unset]) rfl ?_
  refine g_iconst C (z := (0 : Int32)) at_18 (pc' := 19) rfl rfl ?_
  refine g_istore C at_19 (pc' := 21) rfl (Ls' := #[.val (.int p0), .val (.int p1), .val (.int p2), .val (.int p3), .val (.int p4), .val (.int p5), .val (.int z), .val (.ref b13), .val (.int (0 : Int32)), .val (.int (0 : Int32)), .val (.int (0 : Int32)), .unset, .unset, .unset, .unset]) rfl ?_
  refine g_iload C at_21 (pc' := 23) rfl rfl ?_
  refine g_if_le C at_23 (by decide) (pc' := 69) (by decide) (pcN := 26) rfl (fun q23 => ?_) (fun q23 => ?_)
  · refine g_iload C at_69 (pc' := 71) rfl rfl ?_
    refine g_iload C at_71 (pc' := 73) rfl rfl ?_
    refine g_icmp_ne C at_73 (by decide) (pc' := 82) (by decide) (pcN := 76) rfl (fun q => absurd rfl q) (fun _ => ?_)
    refine g_iload C at_76 (pc' := 78) rfl rfl ?_
    refine g_i2b C at_78 (pc' := 79) rfl ?_
    refine g_goto C at_79 (by decide) (pc' := 84) (by decide) ?_
    refine g_istore C at_84 (pc' := 86) rfl (Ls' := #[.val (.int p0), .val (.int p1), .val (.int p2), .val (.int p3), .val (.int p4), .val (.int p5), .val (.int z), .val (.ref b13), .val (.int (0 : Int32)), .val (.int (0 : Int32)), .val (.int (0 : Int32)), .val (.int (p4.toInt8.toInt32)), .unset, .unset, .unset]) rfl ?_
    refine g_iload C at_86 (pc' := 88) rfl rfl ?_
    refine g_i2b C at_88 (pc' := 89) rfl ?_
    refine g_istore C at_89 (pc' := 91) rfl (Ls' := #[.val (.int p0), .val (.int p1), .val (.int p2), .val (.int p3), .val (.int p4), .val (.int p5), .val (.int z), .val (.ref b13), .val (.int (0 : Int32)), .val (.int (0 : Int32)), .val (.int (0 : Int32)), .val (.int (p4.toInt8.toInt32)), .val (.int (p4.toInt8.toInt32)), .unset, .unset]) rfl ?_
    refine g_iload C at_91 (pc' := 93) rfl rfl ?_
    refine g_iload C at_93 (pc' := 95) rfl rfl ?_
    refine g_icmp_ne C at_95 (by decide) (pc' := 106) (by decide) (pcN := 98) rfl (fun q => absurd rfl q) (fun _ => ?_)
    refine g_iload C at_98 (pc' := 100) rfl rfl ?_
    refine g_i2b C at_100 (pc' := 101) rfl ?_
    refine g_istore C at_101 (pc' := 103) rfl (Ls' := #[.val (.int p0), .val (.int p1), .val (.int p2), .val (.int p3), .val (.int p4), .val (.int p5), .val (.int z), .val (.ref b13), .val (.int (0 : Int32)), .val (.int (0 : Int32)), .val (.int (0 : Int32)), .val (.int (p4.toInt8.toInt32)), .val (.int (p4.toInt8.toInt32)), .val (.int (p4.toInt8.toInt32)), .unset]) rfl ?_
    refine g_goto C at_103 (by decide) (pc' := 123) (by decide) ?_
    exact seg123 (C := C) hw p0 p1 p2 p3 p4 p5 z (0 : Int32) (0 : Int32) (0 : Int32) (p4.toInt8.toInt32) (p4.toInt8.toInt32) (p4.toInt8.toInt32) b13 (fun _ => (.int 0)) A13 gb13 h0z hz (fun hp => absurd hp q23)
  · refine g_iloadN C at_26 (pc' := 27) rfl rfl ?_
    refine g_ldcI C (hw _ (List.mem_of_getElem? (i := 11) rfl)) at_27 (pc' := 29) rfl ?_
    refine g_iand C at_29 (pc' := 30) rfl ?_
    refine g_iload C at_30 (pc' := 32) rfl rfl ?_
    refine g_irem C at_32 (pc' := 33) rfl (own_nz q23) ?_
    refine g_istore C at_33 (pc' := 35) rfl (Ls' := #[.val (.int p0), .val (.int p1), .val (.int p2), .val (.int p3), .val (.int p4), .val (.int p5), .val (.int z), .val (.ref b13), .val (.int ((p1 &&& (2147483647 : Int32)) % z)), .val (.int (0 : Int32)), .val (.int (0 : Int32)), .unset, .unset, .unset, .unset]) rfl ?_
    refine g_iloadN C at_35 (pc' := 36) rfl rfl ?_
    refine g_ldcI C (hw _ (List.mem_of_getElem? (i := 11) rfl)) at_36 (pc' := 38) rfl ?_
    refine g_iand C at_38 (pc' := 39) rfl ?_
    refine g_iload C at_39 (pc' := 41) rfl rfl ?_
    refine g_irem C at_41 (pc' := 42) rfl (own_nz q23) ?_
    refine g_istore C at_42 (pc' := 44) rfl (Ls' := #[.val (.int p0), .val (.int p1), .val (.int p2), .val (.int p3), .val (.int p4), .val (.int p5), .val (.int z), .val (.ref b13), .val (.int ((p1 &&& (2147483647 : Int32)) % z)), .val (.int ((p3 &&& (2147483647 : Int32)) % z)), .val (.int (0 : Int32)), .unset, .unset, .unset, .unset]) rfl ?_
    refine g_iload C at_44 (pc' := 46) rfl rfl ?_
    refine g_ldcI C (hw _ (List.mem_of_getElem? (i := 11) rfl)) at_46 (pc' := 48) rfl ?_
    refine g_iand C at_48 (pc' := 49) rfl ?_
    refine g_iload C at_49 (pc' := 51) rfl rfl ?_
    refine g_irem C at_51 (pc' := 52) rfl (own_nz q23) ?_
    refine g_istore C at_52 (pc' := 54) rfl (Ls' := #[.val (.int p0), .val (.int p1), .val (.int p2), .val (.int p3), .val (.int p4), .val (.int p5), .val (.int z), .val (.ref b13), .val (.int ((p1 &&& (2147483647 : Int32)) % z)), .val (.int ((p3 &&& (2147483647 : Int32)) % z)), .val (.int ((p5 &&& (2147483647 : Int32)) % z)), .unset, .unset, .unset, .unset]) rfl ?_
    exact seg54 (C := C) hw p0 p1 p2 p3 p4 p5 z _ _ _ b13 A13 gb13 h0z hz (own_rem p1 z q23) (own_rem p3 z q23) (own_rem p5 z q23)
set_option maxRecDepth 65536 in
set_option maxHeartbeats 40000000 in
theorem law0 {l : Launch} {Z : State} {a0 : Array Value} (hw : ∀ d ∈ tables_1, d.before a0 Z = true) {h0 : Heap} {n0 : Nat} (p0 p1 p2 p3 p4 p5 : Int32)  :
    Met l Z x code maxLocals ret room_1 n0 h0 #[(.int p0), (.int p1), (.int p2), (.int p3), (.int p4), (.int p5)] (fun v _ => v = some (.int 1)) := by
  refine Met.intro (plainFor_of_name (by first | (simp [plainName, overriddenIn, x]; done) | decide +kernel)) (fun m => (show entryFrame m #[(.int p0), (.int p1), (.int p2), (.int p3), (.int p4), (.int p5)] maxLocals = mkF m 0 #[.val (.int p0), .val (.int p1), .val (.int p2), .val (.int p3), .val (.int p4), .val (.int p5), .unset, .unset, .unset, .unset, .unset, .unset, .unset, .unset, .unset] [] from by first | rfl | (simp [entryFrame, mkF, argsToLocals, Value.category, maxLocals]; done))) (fun w Y C => ?_)
  have C : Cx w Z "com/example/longhaul/longhaul/FramesFramePinLaw" code 15 (some .boolean) "law" room_1 n0 _ Y := C
  refine g_iloadN C at_0 (pc' := 1) rfl rfl ?_
  refine g_ldcI C (hw _ (List.mem_of_getElem? (i := 0) rfl)) at_1 (pc' := 3) rfl ?_
  refine g_iand C at_3 (pc' := 4) rfl ?_
  refine g_istore C at_4 (pc' := 6) rfl (Ls' := #[.val (.int p0), .val (.int p1), .val (.int p2), .val (.int p3), .val (.int p4), .val (.int p5), .val (.int (p0 &&& (65535 : Int32))), .unset, .unset, .unset, .unset, .unset, .unset, .unset, .unset]) rfl ?_
  exact seg6 (C := C) hw p0 p1 p2 p3 p4 p5 _ (own_mask p0).1 (own_mask p0).2
set_option maxRecDepth 65536 in
set_option maxHeartbeats 40000000 in
theorem comes_1 {Post : Tables → Env → Array Value → State → Outcome → State → Prop} (hpost : ∀ tb e args s v u, (limb_1_1.after args s (.returned v) u = true ∧ limb_1_2.after args s (.returned v) u = true ∧ True) → FrameEnd s (.returned v) u (Jvm.fieldLocs frame_1_writes args s ++ Jvm.arrayLocs frame_1_arrays args s ++ Jvm.staticLocs frame_1_statics s) 16 157312 → Post tb e args s (.returned v) u) :
    ArmFor flags0 classFile x code maxLocals ret World_1 tables_1 room_1 Calls_1 rest_1 Pre_1 Post := by
  intro l hfl _ _ p e ha hc hk s m args below hf hA hF happ hP
  obtain ⟨hcalls, hrest, hpre⟩ := hP
  obtain ⟨-, -, -, hnamed, -, -, -, hat⟩ := (Spec.applies_iff hf).mp happ
  obtain ⟨hg, hn⟩ := and_e (Cond.before_iff.mp (show (Jvm.Cond.and given_1 narrow_1).before args s = true from hpre))
  obtain ⟨g0, r0⟩ := and_e hg
  obtain ⟨g1, r1⟩ := and_e r0
  obtain ⟨g2, r2⟩ := and_e r1
  obtain ⟨g3, r3⟩ := and_e r2
  obtain ⟨g4, r4⟩ := and_e r3
  obtain ⟨g5, r5⟩ := and_e r4
  have g6 := r5
  obtain ⟨w0, w1, w2, w3, w4, w5, rfl⟩ : ∃ w0 w1 w2 w3 w4 w5 : Value, args = #[w0, w1, w2, w3, w4, w5] := by
    have hs : args.size = 6 := by simpa [Cond.value, given_1] using g0
    obtain ⟨L⟩ := args
    match L, hs with
    | [w0, w1, w2, w3, w4, w5], _ => exact ⟨w0, w1, w2, w3, w4, w5, rfl⟩
  have hw := fun d (hd : d ∈ tables_1) => atoms_spec (ws := Jvm.Cond.code x code maxLocals ret :: tables_1) hat d (List.mem_cons_of_mem _ hd)
  have hfit : Fit s := fun {y c} hc i hi => by
    obtain ⟨ha, rfl⟩ := Array.getElem?_eq_some_iff.mp hc
    have q := List.all_eq_true.mp ((Array.all_eq_true_iff_forall_mem.mp hF) _ (Array.getElem_mem ha)) i (List.mem_range.mpr hi)
    simpa [Array.getElem?_eq_getElem hi] using q
  obtain ⟨i0, ei0⟩ := is_v g1
  obtain rfl : w0 = (.int i0) := Option.some.inj ei0
  obtain ⟨i1, ei1⟩ := is_v g2
  obtain rfl : w1 = (.int i1) := Option.some.inj ei1
  obtain ⟨i2, ei2⟩ := is_v g3
  obtain rfl : w2 = (.int i2) := Option.some.inj ei2
  obtain ⟨i3, ei3⟩ := is_v g4
  obtain rfl : w3 = (.int i3) := Option.some.inj ei3
  obtain ⟨i4, ei4⟩ := is_v g5
  obtain rfl : w4 = (.int i4) := Option.some.inj ei4
  obtain ⟨i5, ei5⟩ := is_v g6
  obtain rfl : w5 = (.int i5) := Option.some.inj ei5
  obtain ⟨n, o, h1, h2, h3, _, L, rfl, ⟨rfl, N, -⟩, hq⟩ := law0 (l := l) (Z := s) hw (h0 := s.heap) (n0 := s.heap.size) i0 i1 i2 i3 i4 i5  (Nat.le_refl _) tables_1 p e ha hc hk s m _ below hf ((Spec.applies_iff_loose hf).mp happ).1 ⟨rfl, State.Warmed39.refl s, rfl⟩ trivial
  exact ⟨n, _, h1, h2, h3, hpost _ _ _ _ _ _ ⟨Cond.after_iff.mpr rfl, Cond.after_iff.mpr (eq_i res_at (Term.int_eval (1)) rfl), trivial⟩ ⟨hq.1, hq.2.1, (hq.2.2.sift fun y hy => Or.inr (N y hy)).mono (by decide) (by decide)⟩⟩
theorem main_1_1 : Claimed_1_1 := comes_1 fun _ _ _ _ _ _ h hF => ⟨h.1, hF⟩
theorem main_1_2 : Claimed_1_2 := comes_1 fun _ _ _ _ _ _ h hF => ⟨h.2.1, hF⟩
end Jvm.Pilot.@@N@@
namespace Jvm.Pilot.@@N@@
open Jvm Jvm.ClassFile Sem Op Lib Jvm.Free Jvm.Stand Jvm.Pilot.@@N@@.Jvm.D
/-! MADE BY PROGRAM (witnessworld.py) out of the Statement's table words and the real class files: 10 classes; the members and pool entries that the words name. The judged class is class 1, her method 1. -/
namespace start1
open Jvm.ClassFile
def u (s : String) : CpInfo := .utf8 (stringToUtf16 s)
/-- a pool by its gaps: so many unusable entries, then the entry; so many at the end -/
def gap : Nat → List CpInfo → List CpInfo
  | 0, r => r
  | n + 1, r => .unusable :: gap n r
def poolList (es : List (Nat × CpInfo)) (last : Nat) : List CpInfo := es.foldr (fun e r => gap e.1 (e.2 :: r)) (gap last [])
def pool (es : List (Nat × CpInfo)) (last : Nat) : Array CpInfo := ⟨poolList es last⟩
def fileOf (pool : Array CpInfo) (this : Nat) (attrs : Array Attribute := #[]) (ms : Array MethodInfo := #[]) (fl : Nat := 33) (sup : Nat := 0) (ifs : Array Nat := #[]) (fds : Array FieldInfo := #[]) : ClassFile where
  minorVersion := 0
  majorVersion := 65
  constantPool := pool
  accessFlags := fl
  thisClass := this
  superClass := sup
  interfaces := ifs
  fields := fds
  methods := ms
  attributes := attrs
def plain (name : String) (sup : Option ClassId) : Class where
  name := name
  kind := .ordinary
  loader := none
  accessFlags := 33
  super := sup
  interfaces := #[]
  cf := none
  fields := #[]
  methods := #[]
  instanceTypes := #[]
  staticTypes := #[]
  resolved := #[]
  callSites := []
  init := .initialized
  statics := none
  mirror := none

def pool0 : Array CpInfo := pool [(5, u "<init>"), (0, u "()V"), (1, .class_ 10), (1, u "java/lang/Object")] 113

def k0m0 : Method := { name := "<init>", desc := "()V", sig := { parameters := [], returnType := none }, accessFlags := 1, code := none }
/-- java/lang/Object -/
def k0 : Class := { plain "java/lang/Object" none with
  accessFlags := 33
  interfaces := #[]
  cf := some (fileOf pool0 8 #[] #[{ accessFlags := 1, nameIndex := 5, descriptorIndex := 6, attributes := #[] }] 33 0 #[] #[])
  fields := #[]
  methods := #[k0m0]
  instanceTypes := #[]
  staticTypes := #[]
  resolved := Array.replicate 124 none
  statics := none }

def pool1 : Array CpInfo := pool [(2, .class_ 4), (1, u "java/lang/Object"), (0, u "<init>"), (0, u "()V"), (0, .integer 65535), (0, .integer 2147483647), (0, .methodref 10 11), (0, .class_ 12), (0, .nameAndType 13 14), (0, u "com/example/longhaul/longhaul/Frames"), (0, u "frame"), (0, u "([B)[B"), (0, .class_ 16), (0, u "com/example/longhaul/longhaul/FramesFramePinLaw"), (2, u "law"), (0, u "(IIIIII)Z")] 5

def k1m0 : Method := { name := "<init>", desc := "()V", sig := { parameters := [], returnType := none }, accessFlags := 2, code := none }
def k1c1 : Code := { maxStack := 3, maxLocals := 15, code := code, exceptionTable := #[], attributes := #[] }
def k1m1 : Method := { name := "law", desc := "(IIIIII)Z", sig := { parameters := [.int, .int, .int, .int, .int, .int], returnType := some .boolean }, accessFlags := 9, code := some k1c1 }
/-- com/example/longhaul/longhaul/FramesFramePinLaw -/
def k1 : Class := { plain "com/example/longhaul/longhaul/FramesFramePinLaw" (some 0) with
  accessFlags := 49
  interfaces := #[]
  cf := some (fileOf pool1 15 #[] #[{ accessFlags := 2, nameIndex := 5, descriptorIndex := 6, attributes := #[] }, { accessFlags := 9, nameIndex := 19, descriptorIndex := 20, attributes := #[] }] 49 2 #[] #[])
  fields := #[]
  methods := #[k1m0, k1m1]
  instanceTypes := #[]
  staticTypes := #[]
  resolved := Array.replicate 26 none
  statics := none }

def pool2 : Array CpInfo := pool [(2, .class_ 4), (1, u "java/lang/Object"), (0, u "<init>"), (0, u "()V"), (0, .class_ 8), (0, u "com/example/longhaul/longhaul/Frames"), (0, .integer 65535), (9, .methodref 20 21), (0, .class_ 22), (0, .nameAndType 23 24), (0, u "java/lang/System"), (0, u "arraycopy"), (0, u "(Ljava/lang/Object;ILjava/lang/Object;II)V"), (8, u "frame"), (0, u "([B)[B"), (15, u "MAX_LENGTH"), (0, u "I"), (1, u "HEADER_LENGTH")] 26

def k2m0 : Method := { name := "<init>", desc := "()V", sig := { parameters := [], returnType := none }, accessFlags := 2, code := none }
def k2c1 : Code := { maxStack := 5, maxLocals := 2, code := prog_11_method_2_code, exceptionTable := #[], attributes := #[] }
def k2m1 : Method := { name := "frame", desc := "([B)[B", sig := { parameters := [(.array .byte)], returnType := some (.array .byte) }, accessFlags := 8, code := some k2c1 }
/-- com/example/longhaul/longhaul/Frames -/
def k2 : Class := { plain "com/example/longhaul/longhaul/Frames" (some 0) with
  accessFlags := 48
  interfaces := #[]
  cf := some (fileOf pool2 7 #[] #[{ accessFlags := 2, nameIndex := 5, descriptorIndex := 6, attributes := #[] }, { accessFlags := 8, nameIndex := 33, descriptorIndex := 34, attributes := #[] }] 48 2 #[] #[{ accessFlags := 24, nameIndex := 50, descriptorIndex := 51, attributes := #[] }, { accessFlags := 26, nameIndex := 53, descriptorIndex := 51, attributes := #[] }])
  fields := #[{ name := "MAX_LENGTH", type := .int, accessFlags := 24, slot := 0, constantValue := 0 }, { name := "HEADER_LENGTH", type := .int, accessFlags := 26, slot := 1, constantValue := 0 }]
  methods := #[k2m0, k2m1]
  instanceTypes := #[]
  staticTypes := #[.int, .int]
  resolved := Array.replicate 80 none
  statics := none }

def pool3 : Array CpInfo := pool [(2, .class_ 4), (1, u "java/lang/Object"), (0, u "<init>"), (0, u "()V"), (1, .class_ 10), (1, u "java/lang/System"), (0, u "allowSecurityManager"), (0, u "I"), (16, u "cons"), (0, u "Ljava/io/Console;"), (77, .class_ 110), (1, u "java/lang/System$CallersHolder"), (43, u "initialErrStream"), (0, u "Ljava/io/PrintStream;"), (19, u "security"), (0, u "Ljava/lang/SecurityManager;"), (31, .class_ 209), (0, u "java/lang/System$1"), (7, u "props"), (0, u "Ljava/util/Properties;"), (2, u "lineSeparator"), (0, u "Ljava/lang/String;"), (96, .class_ 321), (1, u "java/lang/System$LoggerFinder"), (5, .class_ 328), (0, u "java/lang/System$Logger"), (67, u "err"), (2, u "out"), (91, u "notSupportedJnuEncoding"), (15, u "in"), (17, u "initialIn"), (0, u "Ljava/io/InputStream;"), (35, u "bootLayer"), (0, u "Ljava/lang/ModuleLayer;"), (99, .class_ 664), (0, u "java/lang/System$2"), (9, u "NEVER"), (2, u "MAYBE"), (49, u "arraycopy"), (0, u "(Ljava/lang/Object;ILjava/lang/Object;II)V"), (72, .class_ 802), (0, u "java/lang/System$Logger$Level")] 31

def k3m0 : Method := { name := "<init>", desc := "()V", sig := { parameters := [], returnType := none }, accessFlags := 2, code := none }
def k3m1 : Method := { name := "arraycopy", desc := "(Ljava/lang/Object;ILjava/lang/Object;II)V", sig := { parameters := [(.object "java/lang/Object"), .int, (.object "java/lang/Object"), .int, .int], returnType := none }, accessFlags := 265, code := none }
/-- java/lang/System -/
def k3 : Class := { plain "java/lang/System" (some 0) with
  accessFlags := 49
  interfaces := #[]
  cf := some (fileOf pool3 8 #[.nestMembers #[319, 327, 801, 108, 663, 208]] #[{ accessFlags := 2, nameIndex := 5, descriptorIndex := 6, attributes := #[] }, { accessFlags := 265, nameIndex := 727, descriptorIndex := 728, attributes := #[] }] 49 2 #[] #[{ accessFlags := 25, nameIndex := 507, descriptorIndex := 526, attributes := #[] }, { accessFlags := 25, nameIndex := 399, descriptorIndex := 155, attributes := #[] }, { accessFlags := 25, nameIndex := 396, descriptorIndex := 155, attributes := #[] }, { accessFlags := 10, nameIndex := 525, descriptorIndex := 526, attributes := #[] }, { accessFlags := 26, nameIndex := 674, descriptorIndex := 12, attributes := #[] }, { accessFlags := 26, nameIndex := 677, descriptorIndex := 12, attributes := #[] }, { accessFlags := 10, nameIndex := 11, descriptorIndex := 12, attributes := #[] }, { accessFlags := 74, nameIndex := 175, descriptorIndex := 176, attributes := #[] }, { accessFlags := 10, nameIndex := 491, descriptorIndex := 222, attributes := #[] }, { accessFlags := 74, nameIndex := 29, descriptorIndex := 30, attributes := #[] }, { accessFlags := 74, nameIndex := 154, descriptorIndex := 155, attributes := #[] }, { accessFlags := 10, nameIndex := 217, descriptorIndex := 218, attributes := #[] }, { accessFlags := 10, nameIndex := 221, descriptorIndex := 222, attributes := #[] }, { accessFlags := 8, nameIndex := 562, descriptorIndex := 563, attributes := #[] }])
  fields := #[{ name := "in", type := (.object "java/io/InputStream"), accessFlags := 25, slot := 0, constantValue := 0 }, { name := "out", type := (.object "java/io/PrintStream"), accessFlags := 25, slot := 1, constantValue := 0 }, { name := "err", type := (.object "java/io/PrintStream"), accessFlags := 25, slot := 2, constantValue := 0 }, { name := "initialIn", type := (.object "java/io/InputStream"), accessFlags := 10, slot := 3, constantValue := 0 }, { name := "NEVER", type := .int, accessFlags := 26, slot := 4, constantValue := 0 }, { name := "MAYBE", type := .int, accessFlags := 26, slot := 5, constantValue := 0 }, { name := "allowSecurityManager", type := .int, accessFlags := 10, slot := 6, constantValue := 0 }, { name := "security", type := (.object "java/lang/SecurityManager"), accessFlags := 74, slot := 7, constantValue := 0 }, { name := "notSupportedJnuEncoding", type := (.object "java/lang/String"), accessFlags := 10, slot := 8, constantValue := 0 }, { name := "cons", type := (.object "java/io/Console"), accessFlags := 74, slot := 9, constantValue := 0 }, { name := "initialErrStream", type := (.object "java/io/PrintStream"), accessFlags := 74, slot := 10, constantValue := 0 }, { name := "props", type := (.object "java/util/Properties"), accessFlags := 10, slot := 11, constantValue := 0 }, { name := "lineSeparator", type := (.object "java/lang/String"), accessFlags := 10, slot := 12, constantValue := 0 }, { name := "bootLayer", type := (.object "java/lang/ModuleLayer"), accessFlags := 8, slot := 13, constantValue := 0 }]
  methods := #[k3m0, k3m1]
  instanceTypes := #[]
  staticTypes := #[(.object "java/io/InputStream"), (.object "java/io/PrintStream"), (.object "java/io/PrintStream"), (.object "java/io/InputStream"), .int, .int, .int, (.object "java/lang/SecurityManager"), (.object "java/lang/String"), (.object "java/io/Console"), (.object "java/io/PrintStream"), (.object "java/util/Properties"), (.object "java/lang/String"), (.object "java/lang/ModuleLayer")]
  resolved := Array.replicate 834 none
  statics := none }

def pool4 : Array CpInfo := pool [(1, u "java/lang/Cloneable"), (0, .class_ 1), (0, u "java/lang/Object"), (0, .class_ 3)] 3

/-- java/lang/Cloneable -/
def k4 : Class := { plain "java/lang/Cloneable" (some 0) with
  accessFlags := 1537
  interfaces := #[]
  cf := some (fileOf pool4 2 #[] #[] 1537 4 #[] #[])
  fields := #[]
  methods := #[]
  instanceTypes := #[]
  staticTypes := #[]
  resolved := Array.replicate 8 none
  statics := none }

def pool5 : Array CpInfo := pool [(1, u "java/io/Serializable"), (0, .class_ 1), (0, u "java/lang/Object"), (0, .class_ 3)] 3

/-- java/io/Serializable -/
def k5 : Class := { plain "java/io/Serializable" (some 0) with
  accessFlags := 1537
  interfaces := #[]
  cf := some (fileOf pool5 2 #[] #[] 1537 4 #[] #[])
  fields := #[]
  methods := #[]
  instanceTypes := #[]
  staticTypes := #[]
  resolved := Array.replicate 8 none
  statics := none }

/-- the primitive byte -/
def k6 : Class := { plain "byte" none with kind := .primitive 'B', accessFlags := 0x411 }
/-- [B -/
def k7 : Class := { plain "[B" (some 0) with kind := .array 6 .byte, interfaces := #[4, 5], accessFlags := 1041 }

/-- the primitive int -/
def k8 : Class := { plain "int" none with kind := .primitive 'I', accessFlags := 0x411 }
/-- [I -/
def k9 : Class := { plain "[I" (some 0) with kind := .array 8 .int, interfaces := #[4, 5], accessFlags := 1041 }

def heap : Heap := #[]
def classes : Array Class := #[k0, k1, k2, k3, k4, k5, k6, k7, k8, k9]
def interned : List (Array UInt16 × Addr) := []
def slotsUsed : Nat := 0
def theMethod : MethodId := ⟨1, 1⟩
def args0 : Array Value := #[.int 3, .int 1, .int 7, .int 2, .int 9, .int 0]
def aboutOver (below : List Frame) : State where
  vm := { classes := classes, interned := interned.toArray }
  heap := heap
  slotsUsed := slotsUsed
  threads := #[{ frames := .invoking theMethod args0 :: below }]
def below0 : List Frame := [.native { method := ⟨0, 0⟩, args := #[] }]
def about1 : State := aboutOver below0
def p0 : Program := .bare "" "" ""
def e0 : Env := launch0.env 0 0 0
theorem w_frames : about1.frames = Frame.invoking theMethod args0 :: below0 := rfl
set_option maxRecDepth 65536 in
theorem w_args : argsFit about1.vm theMethod args0 = true := by decide +kernel
set_option maxRecDepth 65536 in
theorem w_heap : heapFits about1 = true := by decide +kernel
set_option maxRecDepth 65536 in
theorem w_runnable : about1.curStatus? = some .runnable := by decide +kernel
set_option maxRecDepth 65536 in
theorem w_alone : about1.alone = true := by decide +kernel
set_option maxRecDepth 65536 in
theorem w_named : about1.methodNamed? x = some theMethod := by decide +kernel
set_option maxRecDepth 65536 in
theorem w_hears : about1.hears theMethod below0 = true := by decide +kernel
set_option maxRecDepth 65536 in
theorem w_ripe : about1.ripe theMethod args0 below0 = true := by decide +kernel
theorem w_running : about1.status = .running := rfl
set_option maxRecDepth 65536 in
theorem w_room : about1.hasRoom e0.platform room_1 = true :=
  launch0.hasRoom_least _ room_1 (by decide +kernel) (by decide +kernel) (by decide +kernel) (by decide +kernel) (by decide +kernel) (by decide +kernel)
theorem allAtoms_all (ts : List Jvm.Cond) (a : Array Jvm.Value) (st : Jvm.State) : (allAtoms ts).before a st = ts.all (fun c => c.before a st) := by
  induction ts with
  | nil => rfl
  | cons c t ih =>
    show (Jvm.Cond.and c (allAtoms t)).before a st = _
    rw [Jvm.Cond.before_and, ih, List.all_cons]
def words1 : List Jvm.Cond := Jvm.Cond.code x code maxLocals ret :: tables_1
/-- a 'code' word, met by the world's own term for the bytes: nothing is compared byte by byte -/
theorem code_word {y : MethodName} {bytes : ByteArray} {mx : Nat} {rt : Option FieldType} {a : Array Value} {s : State} {m : MethodId} {meth : Method} {c : Code} (h1 : s.methodNamed? y = some m) (h2 : s.vm.method? m = some meth) (h3 : meth.code = some c) (h4 : c.code = bytes)
    (h5 : (c.maxLocals == mx && c.exceptionTable.isEmpty && decide (c.maxStack ≤ mostOperands) && decide (meth.sig.returnType = rt) && !meth.locks && decide (parseMethodDescriptor y.desc = some meth.sig)) = true) : (Jvm.Cond.code y bytes mx rt).before a s = true := by
  simp only [Bool.and_eq_true, beq_iff_eq, Bool.not_eq_true', decide_eq_true_eq] at h5
  obtain ⟨⟨⟨⟨⟨g1, g2⟩, g3⟩, g4⟩, g5⟩, g6⟩ := h5
  simp [Cond.before, Cond.holds, Cond.value, h1, h2, h3, h4, g1, g2, g3, g4, g5, g6]
def isCode : Jvm.Cond → Bool
  | .code _ _ _ _ => true
  | _ => false
theorem all_split {L : List Jvm.Cond} {P : Jvm.Cond → Bool} (h1 : L.all (fun c => isCode c || P c) = true) (h2 : ∀ c ∈ L.filter isCode, P c = true) : L.all P = true := by
  refine List.all_eq_true.mpr fun c hc => ?_
  have h := List.all_eq_true.mp h1 c hc
  rcases Bool.eq_false_or_eq_true (isCode c) with hi | hi
  · exact h2 c (List.mem_filter.mpr ⟨hc, hi⟩)
  · simpa [hi] using h
set_option maxRecDepth 65536 in
theorem w_c0 : (Jvm.Cond.code x code maxLocals ret).before args0 about1 = true := code_word (m := ⟨1, 1⟩) (meth := k1m1) (c := k1c1) (by decide +kernel) rfl rfl rfl (by decide +kernel)
set_option maxRecDepth 65536 in
theorem w_c1 : (Jvm.Cond.code ({ cls := "com/example/longhaul/longhaul/Frames", name := "frame", desc := "([B)[B" } : Jvm.MethodName) prog_11_method_2_code (2 : Nat) (Option.some (Jvm.ClassFile.FieldType.array Jvm.ClassFile.FieldType.byte))).before args0 about1 = true := code_word (m := ⟨2, 1⟩) (meth := k2m1) (c := k2c1) (by decide +kernel) rfl rfl rfl (by decide +kernel)
def codes1 : List Jvm.Cond := [Jvm.Cond.code x code maxLocals ret, Jvm.Cond.code ({ cls := "com/example/longhaul/longhaul/Frames", name := "frame", desc := "([B)[B" } : Jvm.MethodName) prog_11_method_2_code (2 : Nat) (Option.some (Jvm.ClassFile.FieldType.array Jvm.ClassFile.FieldType.byte))]
set_option maxRecDepth 65536 in
theorem codes_eq : words1.filter isCode = codes1 := rfl
theorem w_codes : ∀ c ∈ words1.filter isCode, c.before args0 about1 = true := by
  rw [codes_eq]
  intro c hc
  simp only [codes1, List.mem_cons, List.not_mem_nil, or_false] at hc
  rcases hc with rfl | rfl
  · exact w_c0
  · exact w_c1
set_option maxRecDepth 65536 in
theorem w_t1 : words1.all (fun c => isCode c || c.before args0 about1) = true := by decide +kernel
theorem w_tables : (allAtoms (Jvm.Cond.code x code maxLocals ret :: tables_1)).before args0 about1 = true := by
  rw [allAtoms_all]
  show words1.all (fun c => c.before args0 about1) = true
  refine all_split ?_ w_codes
  rw [w_t1]
set_option maxRecDepth 65536 in
theorem w_case : (Jvm.Cond.and given_1 narrow_1).before args0 about1 = true := by decide +kernel
theorem w_applies : (headSpec (Jvm.Cond.code x code maxLocals ret :: tables_1) room_1).applies x e0.platform about1 = true :=
  (Spec.applies_iff w_frames).mpr ⟨w_running, w_runnable, w_alone, w_named, w_hears, w_ripe, w_room, w_tables⟩
theorem atStart : AtStart classFile x code maxLocals ret World_1 tables_1 room_1 Calls_1 rest_1 Pre_1 launch0 p0 e0 about1 theMethod args0 below0 :=
  ⟨lists_1, trivial, launch0.admits_env _ _ _, launch0.least_env, fairChoices_fair.cas, fairChoices_fair.clock, w_frames, w_args, w_heap, w_applies, trivial, trivial, w_case⟩
end start1
theorem witness_1 : WitnessClaimed_1 := ⟨start1.p0, start1.e0, start1.about1, start1.theMethod, start1.args0, start1.below0, start1.atStart⟩
end Jvm.Pilot.@@N@@
