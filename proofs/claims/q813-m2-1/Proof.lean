import JvmDerived
import JvmDerived.Pilot.@@N@@Statement
import JvmDerived.Pilot.@@N@@Code
set_option linter.unusedVariables false
set_option linter.unusedSimpArgs false
namespace Jvm.Pilot.@@N@@
open Jvm Jvm.ClassFile Sem Op Lib Jvm.Free Jvm.Stand Jvm.LawKit Jvm.RoadKit Bundle Jvm.Pilot.@@N@@.Jvm.D
/-! ### own kit: a walk in continuation style: Go .. h k n pc Ls st: from heap h, with k cells and n slots made, at pc with locals Ls and stack st, the run comes to its end as F says -/
abbrev Wk : Type := Program × Env × State × MethodId × Array Value × List Frame × Method × Code × Nat
abbrev Wk.p (w : Wk) : Program := w.1
abbrev Wk.e (w : Wk) : Env := w.2.1
abbrev Wk.s (w : Wk) : State := w.2.2.1
abbrev Wk.m (w : Wk) : MethodId := w.2.2.2.1
abbrev Wk.as (w : Wk) : Array Value := w.2.2.2.2.1
abbrev Wk.below (w : Wk) : List Frame := w.2.2.2.2.2.1
abbrev Wk.meth (w : Wk) : Method := w.2.2.2.2.2.2.1
abbrev Wk.c (w : Wk) : Code := w.2.2.2.2.2.2.2.1
abbrev Wk.kk (w : Wk) : Nat := w.2.2.2.2.2.2.2.2
/-- what may be said at the end, of a run that leaves with v -/
def Lv (w : Wk) (R : Room) (n0 : Nat) (Q : Option Value → Heap → Prop) (Y : State → Outcome → Prop) : Prop :=
  ∀ (T : State) (fs : List Frame) (locs : List Loc) (k n : Nat) (v : Option Value), w.s.WarmedH (T.setFrames fs).vm → w.s.sameButNew ({ T.setFrames fs with vm := w.s.vm } : State) locs k n → Fr n0 locs → w.kk ≤ T.heap.size → k ≤ R.cells → n ≤ R.slots → Q v T.heap → Y (T.setFrames fs) (.returned v)
def Nar (w : Wk) (R : Room) (n0 : Nat) (Q : Option Value → Heap → Prop) : State → Outcome → Prop := fun t o => ∃ v L, o = .returned v ∧ (Q v t.heap ∧ Fr n0 L ∧ w.kk ≤ t.heap.size) ∧ FrameEnd w.s o t L R.cells R.slots
theorem Lv.nar (w : Wk) (R : Room) (n0 : Nat) (Q : Option Value → Heap → Prop) : Lv w R n0 Q (Nar w R n0 Q) := fun T fs locs k n v hW hs N hk hc hn hQ => ⟨v, locs, rfl, ⟨hQ, N, hk⟩, ⟨v, rfl⟩, hW, hs.mono hc hn⟩
/-- what stays the same through a body's walk -/
def Cx (w : Wk) (Z : State) (own : String) (bytes : ByteArray) (ml : Nat) (rt : Option FieldType) (nm : String) (R : Room) (n0 : Nat) (Q : Option Value → Heap → Prop) (Y : State → Outcome → Prop) : Prop :=
  w.p.tables.exec = Jvm.exec ∧ w.c.code = bytes ∧ w.c.maxLocals = ml ∧ w.s.vm.findClass own = some w.m.cls ∧ Z.Warmed39 w.s.vm ∧ w.meth.sig.returnType = rt ∧ w.meth.locks = false ∧ w.meth.name = nm ∧ Lv w R n0 Q Y
def Go (w : Wk) (l : Launch) (R : Room) (n0 : Nat) (Y : State → Outcome → Prop) (h : Heap) (k n pc : Nat) (Ls : Array Slot) (st : List Value) : Prop :=
  ∀ (T : State) (locs : List Loc), Stand w.p l w.e R w.s w.m w.as w.below w.meth w.c T locs k n → T.heap = h → n0 ≤ h.size ∧ w.kk ≤ h.size → Fr n0 locs →
    ∃ s₂ o, Steps w.p.tables w.e w.below (T.setTop (mkF w.m pc Ls st)) s₂ ∧ s₂.status = .running ∧ Ended s₂ w.below o ∧ Y s₂ o
def Met (l : Launch) (Z : State) (y : MethodName) (bytes : ByteArray) (ml : Nat) (rt : Option FieldType) (rm : Room) (n0 : Nat) (h0 : Heap) (as' : Array Value) (Q : Option Value → Heap → Prop) : Prop :=
  n0 ≤ h0.size → ∀ ws, MetFree l y (head1 (Jvm.Cond.code y bytes ml rt :: ws) rm) (fun a U => a = as' ∧ Z.Warmed39 U.vm ∧ U.heap = h0) (fun _ _ _ _ _ => True) (fun _ U o U' => ∃ v L, o = .returned v ∧ (Q v U'.heap ∧ Fr n0 L ∧ h0.size ≤ U'.heap.size) ∧ FrameEnd U o U' L rm.cells rm.slots)
section OwnKit
variable {w : Wk} {l : Launch} {R : Room} {Z : State} {a0 : Array Value} {own : String} {bytes : ByteArray} {ml : Nat} {rt : Option FieldType} {nm : String} {n0 : Nat} {Q : Option Value → Heap → Prop} {Y : State → Outcome → Prop} {h : Heap} {k n pc pc' : Nat} {Ls Ls' : Array Slot} {st rest : List Value}
theorem Cx.hx (C : Cx w Z own bytes ml rt nm R n0 Q Y) : w.p.tables.exec = Jvm.exec := C.1
theorem Cx.d (C : Cx w Z own bytes ml rt nm R n0 Q Y) {pc : Nat} {r : Except ClassFile.DecodeError (ClassFile.Instr × Nat)} (hd : decode bytes pc = r) : decode w.c.code pc = r := C.2.1 ▸ hd
theorem Cx.hml (C : Cx w Z own bytes ml rt nm R n0 Q Y) : w.c.maxLocals = ml := C.2.2.1
theorem Cx.hown (C : Cx w Z own bytes ml rt nm R n0 Q Y) : w.s.vm.findClass own = some w.m.cls := C.2.2.2.1
theorem Cx.hZ (C : Cx w Z own bytes ml rt nm R n0 Q Y) : Z.Warmed39 w.s.vm := C.2.2.2.2.1
theorem Cx.ret (C : Cx w Z own bytes ml rt nm R n0 Q Y) : w.meth.sig.returnType = rt := C.2.2.2.2.2.1
theorem Cx.locks (C : Cx w Z own bytes ml rt nm R n0 Q Y) : w.meth.locks = false := C.2.2.2.2.2.2.1
theorem Cx.name (C : Cx w Z own bytes ml rt nm R n0 Q Y) : w.meth.name = nm := C.2.2.2.2.2.2.2.1
theorem Cx.lv (C : Cx w Z own bytes ml rt nm R n0 Q Y) : Lv w R n0 Q Y := C.2.2.2.2.2.2.2.2
theorem Met.intro {y : MethodName} {rm : Room} {h0 : Heap} {as' : Array Value} (hp : plainFor y = true) (hef : ∀ m, entryFrame m as' ml = mkF m 0 Ls [])
    (H : ∀ (w : Wk) (Y : State → Outcome → Prop), Cx w Z y.cls bytes ml rt y.name rm n0 Q Y → Go w l rm n0 Y h0 0 0 0 Ls []) : Met l Z y bytes ml rt rm n0 h0 as' Q := by
  intro hn ws
  refine MetFree.of_bodySF hp hisR ?_
  intro p e s m args below meth c s₁ Bd hml0 hP hK
  obtain ⟨rfl, hZ, hh⟩ := hP
  have X0 : Stand p l e rm s m args below meth c s₁ [] 0 0 := Stand.of_body Bd
  have e0 : s₁.heap = h0 := by rw [← hh, Bd.state]; rfl
  obtain ⟨s₂, o, g1, g2, g3, g4⟩ := H (p, e, s, m, args, below, meth, c, h0.size) _ ⟨Bd.exec, Bd.bytes, hml0, findClass_of_methodNamed Bd.named, hZ, Bd.returns, BodyLoose.notSynchronized Bd, (name_of_methodNamed Bd.named Bd.method).1, Lv.nar _ _ _ _⟩ s₁ [] X0 e0 ⟨hn, Nat.le_refl _⟩ (Fr.nil n0)
  exact ⟨s₂, o, castTop (hef m) g1, g2, g3, g4⟩
theorem Go.plain {st' : List Value} (f : ∀ (T t : State), At T w.m w.c w.below → Steps w.p.tables w.e w.below (T.setTop (mkF w.m pc' Ls' st')) t → Steps w.p.tables w.e w.below (T.setTop (mkF w.m pc Ls st)) t) (G : Go w l R n0 Y h k n pc' Ls' st') : Go w l R n0 Y h k n pc Ls st := by
  intro T locs X hT hn N
  obtain ⟨s₂, o, h1, h2⟩ := G T locs X hT hn N
  exact ⟨s₂, o, f T s₂ X.here h1, h2⟩
theorem Go.stand {st' : List Value} (f : ∀ (T t : State) (locs : List Loc), Stand w.p l w.e R w.s w.m w.as w.below w.meth w.c T locs k n → T.heap = h → Steps w.p.tables w.e w.below (T.setTop (mkF w.m pc' Ls' st')) t → Steps w.p.tables w.e w.below (T.setTop (mkF w.m pc Ls st)) t) (G : Go w l R n0 Y h k n pc' Ls' st') : Go w l R n0 Y h k n pc Ls st := by
  intro T locs X hT hn N
  obtain ⟨s₂, o, h1, h2⟩ := G T locs X hT hn N
  exact ⟨s₂, o, f T s₂ locs X hT h1, h2⟩
theorem Go.size (G : n0 ≤ h.size → Go w l R n0 Y h k n pc Ls st) : Go w l R n0 Y h k n pc Ls st := fun T locs X hT hn N => G hn.1 T locs X hT hn N
theorem own_grow {kk : Nat} {h h' : Heap} (hn : n0 ≤ h.size ∧ kk ≤ h.size) (E : h.size ≤ h'.size) : n0 ≤ h'.size ∧ kk ≤ h'.size := ⟨Nat.le_trans hn.1 E, Nat.le_trans hn.2 E⟩
theorem g_iloadN (C : Cx w Z own bytes ml rt nm R n0 Q Y) {i : Fin 4} {v : Int32} (hd : decode bytes pc = .ok (.iload_n i, 1)) (hp : pc + 1 = pc') (hl : Ls[i.val]? = some (.val (.int v))) (G : Go w l R n0 Y h k n pc' Ls (.int v :: st)) : Go w l R n0 Y h k n pc Ls (st) := by
  subst hp; exact Go.plain (fun T t H K => XS.iloadN H C.hx rfl (C.d hd) hl K) G
theorem g_iload (C : Cx w Z own bytes ml rt nm R n0 Q Y) {i : Nat} {v : Int32} (hd : decode bytes pc = .ok (.iload i, 2)) (hp : pc + 2 = pc') (hl : Ls[i]? = some (.val (.int v))) (G : Go w l R n0 Y h k n pc' Ls (.int v :: st)) : Go w l R n0 Y h k n pc Ls (st) := by
  subst hp; exact Go.plain (fun T t H K => XS.iload H C.hx rfl (C.d hd) hl K) G
theorem g_lloadN (C : Cx w Z own bytes ml rt nm R n0 Q Y) {i : Fin 4} {v : Int64} (hd : decode bytes pc = .ok (.lload_n i, 1)) (hp : pc + 1 = pc') (hl : Ls[i.val]? = some (.val (.long v))) (G : Go w l R n0 Y h k n pc' Ls (.long v :: st)) : Go w l R n0 Y h k n pc Ls (st) := by
  subst hp; exact Go.plain (fun T t H K => XS.lloadN H C.hx rfl (C.d hd) hl K) G
theorem g_lload (C : Cx w Z own bytes ml rt nm R n0 Q Y) {i : Nat} {v : Int64} (hd : decode bytes pc = .ok (.lload i, 2)) (hp : pc + 2 = pc') (hl : Ls[i]? = some (.val (.long v))) (G : Go w l R n0 Y h k n pc' Ls (.long v :: st)) : Go w l R n0 Y h k n pc Ls (st) := by
  subst hp; exact Go.plain (fun T t H K => XS.lload H C.hx rfl (C.d hd) hl K) G
theorem g_aloadN (C : Cx w Z own bytes ml rt nm R n0 Q Y) {i : Fin 4} {v : Value} (hd : decode bytes pc = .ok (.aload_n i, 1)) (hp : pc + 1 = pc') (hl : Ls[i.val]? = some (.val v)) (hv : v.isRef = true) (G : Go w l R n0 Y h k n pc' Ls (v :: st)) : Go w l R n0 Y h k n pc Ls (st) := by
  subst hp; exact Go.plain (fun T t H K => XS.aloadN H C.hx rfl (C.d hd) hl hv K) G
theorem g_aload (C : Cx w Z own bytes ml rt nm R n0 Q Y) {i : Nat} {v : Value} (hd : decode bytes pc = .ok (.aload i, 2)) (hp : pc + 2 = pc') (hl : Ls[i]? = some (.val v)) (hv : v.isRef = true) (G : Go w l R n0 Y h k n pc' Ls (v :: st)) : Go w l R n0 Y h k n pc Ls (st) := by
  subst hp; exact Go.plain (fun T t H K => XS.aload H C.hx rfl (C.d hd) hl hv K) G
theorem g_istoreN (C : Cx w Z own bytes ml rt nm R n0 Q Y) {i : Fin 4} {x : Int32} (hd : decode bytes pc = .ok (.istore_n i, 1)) (hp : pc + 1 = pc') (hl : storeLocals Ls i.val (.int x) = some Ls') (G : Go w l R n0 Y h k n pc' Ls' rest) : Go w l R n0 Y h k n pc Ls (.int x :: rest) := by
  subst hp; exact Go.plain (fun T t H K => XS.istoreN H C.hx rfl (C.d hd) rfl hl K) G
theorem g_istore (C : Cx w Z own bytes ml rt nm R n0 Q Y) {i : Nat} {x : Int32} (hd : decode bytes pc = .ok (.istore i, 2)) (hp : pc + 2 = pc') (hl : storeLocals Ls i (.int x) = some Ls') (G : Go w l R n0 Y h k n pc' Ls' rest) : Go w l R n0 Y h k n pc Ls (.int x :: rest) := by
  subst hp; exact Go.plain (fun T t H K => XS.istore H C.hx rfl (C.d hd) rfl hl K) G
theorem g_lstoreN (C : Cx w Z own bytes ml rt nm R n0 Q Y) {i : Fin 4} {x : Int64} (hd : decode bytes pc = .ok (.lstore_n i, 1)) (hp : pc + 1 = pc') (hl : storeLocals Ls i.val (.long x) = some Ls') (G : Go w l R n0 Y h k n pc' Ls' rest) : Go w l R n0 Y h k n pc Ls (.long x :: rest) := by
  subst hp; exact Go.plain (fun T t H K => XS.lstoreN H C.hx rfl (C.d hd) rfl hl K) G
theorem g_lstore (C : Cx w Z own bytes ml rt nm R n0 Q Y) {i : Nat} {x : Int64} (hd : decode bytes pc = .ok (.lstore i, 2)) (hp : pc + 2 = pc') (hl : storeLocals Ls i (.long x) = some Ls') (G : Go w l R n0 Y h k n pc' Ls' rest) : Go w l R n0 Y h k n pc Ls (.long x :: rest) := by
  subst hp; exact Go.plain (fun T t H K => XS.lstore H C.hx rfl (C.d hd) rfl hl K) G
theorem g_astoreN (C : Cx w Z own bytes ml rt nm R n0 Q Y) {i : Fin 4} {x : Value} (hd : decode bytes pc = .ok (.astore_n i, 1)) (hp : pc + 1 = pc') (hv : x.isRef = true) (hl : storeLocals Ls i.val (x) = some Ls') (G : Go w l R n0 Y h k n pc' Ls' rest) : Go w l R n0 Y h k n pc Ls (x :: rest) := by
  subst hp; exact Go.plain (fun T t H K => XS.astoreN H C.hx rfl (C.d hd) rfl hv hl K) G
theorem g_astore (C : Cx w Z own bytes ml rt nm R n0 Q Y) {i : Nat} {x : Value} (hd : decode bytes pc = .ok (.astore i, 2)) (hp : pc + 2 = pc') (hv : x.isRef = true) (hl : storeLocals Ls i (x) = some Ls') (G : Go w l R n0 Y h k n pc' Ls' rest) : Go w l R n0 Y h k n pc Ls (x :: rest) := by
  subst hp; exact Go.plain (fun T t H K => XS.astore H C.hx rfl (C.d hd) rfl hv hl K) G
theorem g_iconst (C : Cx w Z own bytes ml rt nm R n0 Q Y) {i : Int} {z : Int32} (hd : decode bytes pc = .ok (.iconst i, 1)) (hp : pc + 1 = pc') (hz : Int32.ofInt i = z) (G : Go w l R n0 Y h k n pc' Ls (.int z :: st)) : Go w l R n0 Y h k n pc Ls st := by
  subst hp hz; exact Go.plain (fun T t H K => XS.iconst H C.hx rfl (C.d hd) K) G
theorem g_bipush (C : Cx w Z own bytes ml rt nm R n0 Q Y) {i : Int} {z : Int32} (hd : decode bytes pc = .ok (.bipush i, 2)) (hp : pc + 2 = pc') (hz : (Int8.ofInt i).toInt32 = z) (G : Go w l R n0 Y h k n pc' Ls (.int z :: st)) : Go w l R n0 Y h k n pc Ls st := by
  subst hp hz; exact Go.plain (fun T t H K => XS.bipush H C.hx rfl (C.d hd) K) G
theorem g_sipush (C : Cx w Z own bytes ml rt nm R n0 Q Y) {i : Int} {z : Int32} (hd : decode bytes pc = .ok (.sipush i, 3)) (hp : pc + 3 = pc') (hz : (Int16.ofInt i).toInt32 = z) (G : Go w l R n0 Y h k n pc' Ls (.int z :: st)) : Go w l R n0 Y h k n pc Ls st := by
  subst hp hz; exact Go.plain (fun T t H K => XS.sipush H C.hx rfl (C.d hd) K) G
theorem g_lconst (C : Cx w Z own bytes ml rt nm R n0 Q Y) {i : Fin 2} {z : Int64} (hd : decode bytes pc = .ok (.lconst i, 1)) (hp : pc + 1 = pc') (hz : Int64.ofNat i = z) (G : Go w l R n0 Y h k n pc' Ls (.long z :: st)) : Go w l R n0 Y h k n pc Ls st := by
  subst hp hz; exact Go.plain (fun T t H K => XS.lconst H C.hx rfl (C.d hd) K) G
theorem g_null (C : Cx w Z own bytes ml rt nm R n0 Q Y) (hd : decode bytes pc = .ok (.aconst_null, 1)) (hp : pc + 1 = pc') (G : Go w l R n0 Y h k n pc' Ls (.null :: st)) : Go w l R n0 Y h k n pc Ls (st) := by
  subst hp; exact Go.plain (fun T t H K => XS.aconstNull H C.hx rfl (C.d hd)  K) G
theorem g_iadd (C : Cx w Z own bytes ml rt nm R n0 Q Y) {x y : Int32} (hd : decode bytes pc = .ok (.iadd, 1)) (hp : pc + 1 = pc') (G : Go w l R n0 Y h k n pc' Ls (.int (x + y) :: rest)) : Go w l R n0 Y h k n pc Ls (.int y :: .int x :: rest) := by
  subst hp; exact Go.plain (fun T t H K => XS.iadd H C.hx rfl (C.d hd) rfl K) G
theorem g_isub (C : Cx w Z own bytes ml rt nm R n0 Q Y) {x y : Int32} (hd : decode bytes pc = .ok (.isub, 1)) (hp : pc + 1 = pc') (G : Go w l R n0 Y h k n pc' Ls (.int (x - y) :: rest)) : Go w l R n0 Y h k n pc Ls (.int y :: .int x :: rest) := by
  subst hp; exact Go.plain (fun T t H K => XS.isub H C.hx rfl (C.d hd) rfl K) G
theorem g_imul (C : Cx w Z own bytes ml rt nm R n0 Q Y) {x y : Int32} (hd : decode bytes pc = .ok (.imul, 1)) (hp : pc + 1 = pc') (G : Go w l R n0 Y h k n pc' Ls (.int (x * y) :: rest)) : Go w l R n0 Y h k n pc Ls (.int y :: .int x :: rest) := by
  subst hp; exact Go.plain (fun T t H K => XS.imul H C.hx rfl (C.d hd) rfl K) G
theorem g_iand (C : Cx w Z own bytes ml rt nm R n0 Q Y) {x y : Int32} (hd : decode bytes pc = .ok (.iand, 1)) (hp : pc + 1 = pc') (G : Go w l R n0 Y h k n pc' Ls (.int (x &&& y) :: rest)) : Go w l R n0 Y h k n pc Ls (.int y :: .int x :: rest) := by
  subst hp; exact Go.plain (fun T t H K => XS.iand H C.hx rfl (C.d hd) rfl K) G
theorem g_ior (C : Cx w Z own bytes ml rt nm R n0 Q Y) {x y : Int32} (hd : decode bytes pc = .ok (.ior, 1)) (hp : pc + 1 = pc') (G : Go w l R n0 Y h k n pc' Ls (.int (x ||| y) :: rest)) : Go w l R n0 Y h k n pc Ls (.int y :: .int x :: rest) := by
  subst hp; exact Go.plain (fun T t H K => XS.ior H C.hx rfl (C.d hd) rfl K) G
theorem g_ixor (C : Cx w Z own bytes ml rt nm R n0 Q Y) {x y : Int32} (hd : decode bytes pc = .ok (.ixor, 1)) (hp : pc + 1 = pc') (G : Go w l R n0 Y h k n pc' Ls (.int (x ^^^ y) :: rest)) : Go w l R n0 Y h k n pc Ls (.int y :: .int x :: rest) := by
  subst hp; exact Go.plain (fun T t H K => XS.ixor H C.hx rfl (C.d hd) rfl K) G
theorem g_ishl (C : Cx w Z own bytes ml rt nm R n0 Q Y) {x y : Int32} (hd : decode bytes pc = .ok (.ishl, 1)) (hp : pc + 1 = pc') (G : Go w l R n0 Y h k n pc' Ls (.int (x <<< (y &&& 31)) :: rest)) : Go w l R n0 Y h k n pc Ls (.int y :: .int x :: rest) := by
  subst hp; exact Go.plain (fun T t H K => XS.ishl H C.hx rfl (C.d hd) rfl K) G
theorem g_ishr (C : Cx w Z own bytes ml rt nm R n0 Q Y) {x y : Int32} (hd : decode bytes pc = .ok (.ishr, 1)) (hp : pc + 1 = pc') (G : Go w l R n0 Y h k n pc' Ls (.int (x >>> (y &&& 31)) :: rest)) : Go w l R n0 Y h k n pc Ls (.int y :: .int x :: rest) := by
  subst hp; exact Go.plain (fun T t H K => XS.ishr H C.hx rfl (C.d hd) rfl K) G
theorem g_iushr (C : Cx w Z own bytes ml rt nm R n0 Q Y) {x y : Int32} (hd : decode bytes pc = .ok (.iushr, 1)) (hp : pc + 1 = pc') (G : Go w l R n0 Y h k n pc' Ls (.int ((x.toUInt32 >>> (y &&& 31).toUInt32).toInt32) :: rest)) : Go w l R n0 Y h k n pc Ls (.int y :: .int x :: rest) := by
  subst hp; exact Go.plain (fun T t H K => XS.iushr H C.hx rfl (C.d hd) rfl K) G
theorem g_ladd (C : Cx w Z own bytes ml rt nm R n0 Q Y) {x y : Int64} (hd : decode bytes pc = .ok (.ladd, 1)) (hp : pc + 1 = pc') (G : Go w l R n0 Y h k n pc' Ls (.long (x + y) :: rest)) : Go w l R n0 Y h k n pc Ls (.long y :: .long x :: rest) := by
  subst hp; exact Go.plain (fun T t H K => XS.ladd H C.hx rfl (C.d hd) rfl K) G
theorem g_lsub (C : Cx w Z own bytes ml rt nm R n0 Q Y) {x y : Int64} (hd : decode bytes pc = .ok (.lsub, 1)) (hp : pc + 1 = pc') (G : Go w l R n0 Y h k n pc' Ls (.long (x - y) :: rest)) : Go w l R n0 Y h k n pc Ls (.long y :: .long x :: rest) := by
  subst hp; exact Go.plain (fun T t H K => XS.lsub H C.hx rfl (C.d hd) rfl K) G
theorem g_lmul (C : Cx w Z own bytes ml rt nm R n0 Q Y) {x y : Int64} (hd : decode bytes pc = .ok (.lmul, 1)) (hp : pc + 1 = pc') (G : Go w l R n0 Y h k n pc' Ls (.long (x * y) :: rest)) : Go w l R n0 Y h k n pc Ls (.long y :: .long x :: rest) := by
  subst hp; exact Go.plain (fun T t H K => XS.lmul H C.hx rfl (C.d hd) rfl K) G
theorem g_land (C : Cx w Z own bytes ml rt nm R n0 Q Y) {x y : Int64} (hd : decode bytes pc = .ok (.land, 1)) (hp : pc + 1 = pc') (G : Go w l R n0 Y h k n pc' Ls (.long (x &&& y) :: rest)) : Go w l R n0 Y h k n pc Ls (.long y :: .long x :: rest) := by
  subst hp; exact Go.plain (fun T t H K => XS.land H C.hx rfl (C.d hd) rfl K) G
theorem g_lor (C : Cx w Z own bytes ml rt nm R n0 Q Y) {x y : Int64} (hd : decode bytes pc = .ok (.lor, 1)) (hp : pc + 1 = pc') (G : Go w l R n0 Y h k n pc' Ls (.long (x ||| y) :: rest)) : Go w l R n0 Y h k n pc Ls (.long y :: .long x :: rest) := by
  subst hp; exact Go.plain (fun T t H K => XS.lor H C.hx rfl (C.d hd) rfl K) G
theorem g_lxor (C : Cx w Z own bytes ml rt nm R n0 Q Y) {x y : Int64} (hd : decode bytes pc = .ok (.lxor, 1)) (hp : pc + 1 = pc') (G : Go w l R n0 Y h k n pc' Ls (.long (x ^^^ y) :: rest)) : Go w l R n0 Y h k n pc Ls (.long y :: .long x :: rest) := by
  subst hp; exact Go.plain (fun T t H K => XS.lxor H C.hx rfl (C.d hd) rfl K) G
theorem g_lshl (C : Cx w Z own bytes ml rt nm R n0 Q Y) {x : Int64} {y : Int32} (hd : decode bytes pc = .ok (.lshl, 1)) (hp : pc + 1 = pc') (G : Go w l R n0 Y h k n pc' Ls (.long (x <<< (y &&& 0x3f).toInt64) :: rest)) : Go w l R n0 Y h k n pc Ls (.int y :: .long x :: rest) := by
  subst hp; exact Go.plain (fun T t H K => XS.lshl H C.hx rfl (C.d hd) rfl K) G
theorem g_lshr (C : Cx w Z own bytes ml rt nm R n0 Q Y) {x : Int64} {y : Int32} (hd : decode bytes pc = .ok (.lshr, 1)) (hp : pc + 1 = pc') (G : Go w l R n0 Y h k n pc' Ls (.long (x >>> (y &&& 0x3f).toInt64) :: rest)) : Go w l R n0 Y h k n pc Ls (.int y :: .long x :: rest) := by
  subst hp; exact Go.plain (fun T t H K => XS.lshr H C.hx rfl (C.d hd) rfl K) G
theorem g_lushr (C : Cx w Z own bytes ml rt nm R n0 Q Y) {x : Int64} {y : Int32} (hd : decode bytes pc = .ok (.lushr, 1)) (hp : pc + 1 = pc') (G : Go w l R n0 Y h k n pc' Ls (.long ((x.toUInt64 >>> (y &&& 0x3f).toInt64.toUInt64).toInt64) :: rest)) : Go w l R n0 Y h k n pc Ls (.int y :: .long x :: rest) := by
  subst hp; exact Go.plain (fun T t H K => XS.lushr H C.hx rfl (C.d hd) rfl K) G
theorem g_idiv (C : Cx w Z own bytes ml rt nm R n0 Q Y) {x y : Int32} (hd : decode bytes pc = .ok (.idiv, 1)) (hp : pc + 1 = pc') (hy : y ≠ 0) (G : Go w l R n0 Y h k n pc' Ls (.int (x / y) :: rest)) : Go w l R n0 Y h k n pc Ls (.int y :: .int x :: rest) := by
  subst hp; exact Go.plain (fun T t H K => XS.idiv H C.hx rfl (C.d hd) rfl hy K) G
theorem g_irem (C : Cx w Z own bytes ml rt nm R n0 Q Y) {x y : Int32} (hd : decode bytes pc = .ok (.irem, 1)) (hp : pc + 1 = pc') (hy : y ≠ 0) (G : Go w l R n0 Y h k n pc' Ls (.int (x % y) :: rest)) : Go w l R n0 Y h k n pc Ls (.int y :: .int x :: rest) := by
  subst hp; exact Go.stand (fun T t locs X hT K => iremM X C.hx rfl (C.d hd) rfl hy K) G
theorem g_lcmp (C : Cx w Z own bytes ml rt nm R n0 Q Y) {x y : Int64} (hd : decode bytes pc = .ok (.lcmp, 1)) (hp : pc + 1 = pc') (G : Go w l R n0 Y h k n pc' Ls (.int (lcmpW x y) :: rest)) : Go w l R n0 Y h k n pc Ls (.long y :: .long x :: rest) := by
  subst hp; exact Go.plain (fun T t H K => XS.lcmp H C.hx rfl (C.d hd) rfl K) G
theorem g_ineg (C : Cx w Z own bytes ml rt nm R n0 Q Y) {v : Int32} (hd : decode bytes pc = .ok (.ineg, 1)) (hp : pc + 1 = pc') (G : Go w l R n0 Y h k n pc' Ls (.int (-v) :: rest)) : Go w l R n0 Y h k n pc Ls (.int v :: rest) := by
  subst hp; exact Go.plain (fun T t H K => XS.ineg H C.hx rfl (C.d hd) rfl K) G
theorem g_lneg (C : Cx w Z own bytes ml rt nm R n0 Q Y) {v : Int64} (hd : decode bytes pc = .ok (.lneg, 1)) (hp : pc + 1 = pc') (G : Go w l R n0 Y h k n pc' Ls (.long (-v) :: rest)) : Go w l R n0 Y h k n pc Ls (.long v :: rest) := by
  subst hp; exact Go.plain (fun T t H K => XS.lneg H C.hx rfl (C.d hd) rfl K) G
theorem g_i2l (C : Cx w Z own bytes ml rt nm R n0 Q Y) {v : Int32} (hd : decode bytes pc = .ok (.i2l, 1)) (hp : pc + 1 = pc') (G : Go w l R n0 Y h k n pc' Ls (.long (v.toInt64) :: rest)) : Go w l R n0 Y h k n pc Ls (.int v :: rest) := by
  subst hp; exact Go.plain (fun T t H K => XS.i2l H C.hx rfl (C.d hd) rfl K) G
theorem g_l2i (C : Cx w Z own bytes ml rt nm R n0 Q Y) {v : Int64} (hd : decode bytes pc = .ok (.l2i, 1)) (hp : pc + 1 = pc') (G : Go w l R n0 Y h k n pc' Ls (.int (v.toInt32) :: rest)) : Go w l R n0 Y h k n pc Ls (.long v :: rest) := by
  subst hp; exact Go.plain (fun T t H K => XS.l2i H C.hx rfl (C.d hd) rfl K) G
theorem g_i2b (C : Cx w Z own bytes ml rt nm R n0 Q Y) {v : Int32} (hd : decode bytes pc = .ok (.i2b, 1)) (hp : pc + 1 = pc') (G : Go w l R n0 Y h k n pc' Ls (.int (v.toInt8.toInt32) :: rest)) : Go w l R n0 Y h k n pc Ls (.int v :: rest) := by
  subst hp; exact Go.plain (fun T t H K => XS.i2b H C.hx rfl (C.d hd) rfl K) G
theorem g_i2s (C : Cx w Z own bytes ml rt nm R n0 Q Y) {v : Int32} (hd : decode bytes pc = .ok (.i2s, 1)) (hp : pc + 1 = pc') (G : Go w l R n0 Y h k n pc' Ls (.int (v.toInt16.toInt32) :: rest)) : Go w l R n0 Y h k n pc Ls (.int v :: rest) := by
  subst hp; exact Go.plain (fun T t H K => XS.i2s H C.hx rfl (C.d hd) rfl K) G
theorem g_i2c (C : Cx w Z own bytes ml rt nm R n0 Q Y) {v : Int32} (hd : decode bytes pc = .ok (.i2c, 1)) (hp : pc + 1 = pc') (G : Go w l R n0 Y h k n pc' Ls (.int (v.toUInt32.toUInt16.toUInt32.toInt32) :: rest)) : Go w l R n0 Y h k n pc Ls (.int v :: rest) := by
  subst hp; exact Go.plain (fun T t H K => XS.i2c H C.hx rfl (C.d hd) rfl K) G
theorem g_dup (C : Cx w Z own bytes ml rt nm R n0 Q Y) {x : Value} (hd : decode bytes pc = .ok (.dup, 1)) (hp : pc + 1 = pc') (hc : x.category = 1) (G : Go w l R n0 Y h k n pc' Ls (x :: x :: rest)) : Go w l R n0 Y h k n pc Ls (x :: rest) := by
  subst hp; exact Go.plain (fun T t H K => XS.dup H C.hx rfl (C.d hd) rfl hc K) G
theorem g_dupX1 (C : Cx w Z own bytes ml rt nm R n0 Q Y) {x y : Value} (hd : decode bytes pc = .ok (.dup_x1, 1)) (hp : pc + 1 = pc') (hc : x.category = 1) (hc2 : y.category = 1) (G : Go w l R n0 Y h k n pc' Ls (x :: y :: x :: rest)) : Go w l R n0 Y h k n pc Ls (x :: y :: rest) := by
  subst hp; exact Go.plain (fun T t H K => XS.dupX1 H C.hx rfl (C.d hd) rfl hc hc2 K) G
theorem g_pop (C : Cx w Z own bytes ml rt nm R n0 Q Y) {x : Value} (hd : decode bytes pc = .ok (.pop, 1)) (hp : pc + 1 = pc') (hc : x.category = 1) (G : Go w l R n0 Y h k n pc' Ls (rest)) : Go w l R n0 Y h k n pc Ls (x :: rest) := by
  subst hp; exact Go.plain (fun T t H K => XS.pop H C.hx rfl (C.d hd) rfl hc K) G
theorem g_iinc (C : Cx w Z own bytes ml rt nm R n0 Q Y) {i : Nat} {d : Int} {x : Int32} (hd : decode bytes pc = .ok (.iinc i d, 3)) (hp : pc + 3 = pc') (hl : Ls[i]? = some (.val (.int x))) {z : Int32} (hz : x + Int32.ofInt d = z) (hl' : storeLocals Ls i (.int z) = some Ls') (G : Go w l R n0 Y h k n pc' Ls' st) : Go w l R n0 Y h k n pc Ls st := by
  subst hp hz; exact Go.plain (fun T t H K => XS.iinc H C.hx rfl (C.d hd) hl hl' K) G
theorem g_goto (C : Cx w Z own bytes ml rt nm R n0 Q Y) {o : Int} (hd : decode bytes pc = .ok (.goto o, 3)) (ho : 0 ≤ (pc : Int) + o) (hp : ((pc : Int) + o).toNat = pc') (G : Go w l R n0 Y h k n pc' Ls st) : Go w l R n0 Y h k n pc Ls st :=
  Go.plain (fun T t H K => XS.goto H C.hx rfl (pc0 := pc) rfl (C.d hd) ho hp K) G
theorem g_icmp_lt (C : Cx w Z own bytes ml rt nm R n0 Q Y) {o : Int} {x y : Int32} {pcN : Nat} (hd : decode bytes pc = .ok (.if_icmp .lt o, 3)) (ho : 0 ≤ (pc : Int) + o) (hp : ((pc : Int) + o).toNat = pc') (hq : pc + 3 = pcN) (G : x < y → Go w l R n0 Y h k n pc' Ls rest) (G' : ¬ x < y → Go w l R n0 Y h k n pcN Ls rest) : Go w l R n0 Y h k n pc Ls (.int y :: .int x :: rest) := by
  subst hq
  by_cases q : x < y
  · exact Go.plain (fun T t H K => XS.icmpYes H C.hx rfl (pc0 := pc) rfl (C.d hd) rfl (tlt q).1 ho hp K) (G q)
  · exact Go.plain (fun T t H K => XS.icmpNo H C.hx rfl (C.d hd) rfl (flt q).1 K) (G' q)
theorem g_if_lt (C : Cx w Z own bytes ml rt nm R n0 Q Y) {o : Int} {x : Int32} {pcN : Nat} (hd : decode bytes pc = .ok (.ifCond .lt o, 3)) (ho : 0 ≤ (pc : Int) + o) (hp : ((pc : Int) + o).toNat = pc') (hq : pc + 3 = pcN) (G : x < 0 → Go w l R n0 Y h k n pc' Ls rest) (G' : ¬ x < 0 → Go w l R n0 Y h k n pcN Ls rest) : Go w l R n0 Y h k n pc Ls (.int x :: rest) := by
  subst hq
  by_cases q : x < 0
  · exact Go.plain (fun T t H K => XS.ifYes H C.hx rfl (pc0 := pc) rfl (C.d hd) rfl ((if0 _ _).trans (tlt q).1) ho hp K) (G q)
  · exact Go.plain (fun T t H K => XS.ifNo H C.hx rfl (C.d hd) rfl ((if0 _ _).trans (flt q).1) K) (G' q)
theorem g_icmp_ge (C : Cx w Z own bytes ml rt nm R n0 Q Y) {o : Int} {x y : Int32} {pcN : Nat} (hd : decode bytes pc = .ok (.if_icmp .ge o, 3)) (ho : 0 ≤ (pc : Int) + o) (hp : ((pc : Int) + o).toNat = pc') (hq : pc + 3 = pcN) (G : ¬ x < y → Go w l R n0 Y h k n pc' Ls rest) (G' : x < y → Go w l R n0 Y h k n pcN Ls rest) : Go w l R n0 Y h k n pc Ls (.int y :: .int x :: rest) := by
  subst hq
  by_cases q : x < y
  · exact Go.plain (fun T t H K => XS.icmpNo H C.hx rfl (C.d hd) rfl (tlt q).2.1 K) (G' q)
  · exact Go.plain (fun T t H K => XS.icmpYes H C.hx rfl (pc0 := pc) rfl (C.d hd) rfl (flt q).2.1 ho hp K) (G q)
theorem g_if_ge (C : Cx w Z own bytes ml rt nm R n0 Q Y) {o : Int} {x : Int32} {pcN : Nat} (hd : decode bytes pc = .ok (.ifCond .ge o, 3)) (ho : 0 ≤ (pc : Int) + o) (hp : ((pc : Int) + o).toNat = pc') (hq : pc + 3 = pcN) (G : ¬ x < 0 → Go w l R n0 Y h k n pc' Ls rest) (G' : x < 0 → Go w l R n0 Y h k n pcN Ls rest) : Go w l R n0 Y h k n pc Ls (.int x :: rest) := by
  subst hq
  by_cases q : x < 0
  · exact Go.plain (fun T t H K => XS.ifNo H C.hx rfl (C.d hd) rfl ((if0 _ _).trans (tlt q).2.1) K) (G' q)
  · exact Go.plain (fun T t H K => XS.ifYes H C.hx rfl (pc0 := pc) rfl (C.d hd) rfl ((if0 _ _).trans (flt q).2.1) ho hp K) (G q)
theorem g_icmp_gt (C : Cx w Z own bytes ml rt nm R n0 Q Y) {o : Int} {x y : Int32} {pcN : Nat} (hd : decode bytes pc = .ok (.if_icmp .gt o, 3)) (ho : 0 ≤ (pc : Int) + o) (hp : ((pc : Int) + o).toNat = pc') (hq : pc + 3 = pcN) (G : y < x → Go w l R n0 Y h k n pc' Ls rest) (G' : ¬ y < x → Go w l R n0 Y h k n pcN Ls rest) : Go w l R n0 Y h k n pc Ls (.int y :: .int x :: rest) := by
  subst hq
  by_cases q : y < x
  · exact Go.plain (fun T t H K => XS.icmpYes H C.hx rfl (pc0 := pc) rfl (C.d hd) rfl (tlt q).2.2.1 ho hp K) (G q)
  · exact Go.plain (fun T t H K => XS.icmpNo H C.hx rfl (C.d hd) rfl (flt q).2.2.1 K) (G' q)
theorem g_if_gt (C : Cx w Z own bytes ml rt nm R n0 Q Y) {o : Int} {x : Int32} {pcN : Nat} (hd : decode bytes pc = .ok (.ifCond .gt o, 3)) (ho : 0 ≤ (pc : Int) + o) (hp : ((pc : Int) + o).toNat = pc') (hq : pc + 3 = pcN) (G : 0 < x → Go w l R n0 Y h k n pc' Ls rest) (G' : ¬ 0 < x → Go w l R n0 Y h k n pcN Ls rest) : Go w l R n0 Y h k n pc Ls (.int x :: rest) := by
  subst hq
  by_cases q : 0 < x
  · exact Go.plain (fun T t H K => XS.ifYes H C.hx rfl (pc0 := pc) rfl (C.d hd) rfl ((if0 _ _).trans (tlt q).2.2.1) ho hp K) (G q)
  · exact Go.plain (fun T t H K => XS.ifNo H C.hx rfl (C.d hd) rfl ((if0 _ _).trans (flt q).2.2.1) K) (G' q)
theorem g_icmp_le (C : Cx w Z own bytes ml rt nm R n0 Q Y) {o : Int} {x y : Int32} {pcN : Nat} (hd : decode bytes pc = .ok (.if_icmp .le o, 3)) (ho : 0 ≤ (pc : Int) + o) (hp : ((pc : Int) + o).toNat = pc') (hq : pc + 3 = pcN) (G : ¬ y < x → Go w l R n0 Y h k n pc' Ls rest) (G' : y < x → Go w l R n0 Y h k n pcN Ls rest) : Go w l R n0 Y h k n pc Ls (.int y :: .int x :: rest) := by
  subst hq
  by_cases q : y < x
  · exact Go.plain (fun T t H K => XS.icmpNo H C.hx rfl (C.d hd) rfl (tlt q).2.2.2 K) (G' q)
  · exact Go.plain (fun T t H K => XS.icmpYes H C.hx rfl (pc0 := pc) rfl (C.d hd) rfl (flt q).2.2.2 ho hp K) (G q)
theorem g_if_le (C : Cx w Z own bytes ml rt nm R n0 Q Y) {o : Int} {x : Int32} {pcN : Nat} (hd : decode bytes pc = .ok (.ifCond .le o, 3)) (ho : 0 ≤ (pc : Int) + o) (hp : ((pc : Int) + o).toNat = pc') (hq : pc + 3 = pcN) (G : ¬ 0 < x → Go w l R n0 Y h k n pc' Ls rest) (G' : 0 < x → Go w l R n0 Y h k n pcN Ls rest) : Go w l R n0 Y h k n pc Ls (.int x :: rest) := by
  subst hq
  by_cases q : 0 < x
  · exact Go.plain (fun T t H K => XS.ifNo H C.hx rfl (C.d hd) rfl ((if0 _ _).trans (tlt q).2.2.2) K) (G' q)
  · exact Go.plain (fun T t H K => XS.ifYes H C.hx rfl (pc0 := pc) rfl (C.d hd) rfl ((if0 _ _).trans (flt q).2.2.2) ho hp K) (G q)
theorem g_icmp_eq (C : Cx w Z own bytes ml rt nm R n0 Q Y) {o : Int} {x y : Int32} {pcN : Nat} (hd : decode bytes pc = .ok (.if_icmp .eq o, 3)) (ho : 0 ≤ (pc : Int) + o) (hp : ((pc : Int) + o).toNat = pc') (hq : pc + 3 = pcN) (G : x = y → Go w l R n0 Y h k n pc' Ls rest) (G' : ¬ x = y → Go w l R n0 Y h k n pcN Ls rest) : Go w l R n0 Y h k n pc Ls (.int y :: .int x :: rest) := by
  subst hq
  by_cases q : x = y
  · exact Go.plain (fun T t H K => XS.icmpYes H C.hx rfl (pc0 := pc) rfl (C.d hd) rfl (teq q).1 ho hp K) (G q)
  · exact Go.plain (fun T t H K => XS.icmpNo H C.hx rfl (C.d hd) rfl (feq q).1 K) (G' q)
theorem g_if_eq (C : Cx w Z own bytes ml rt nm R n0 Q Y) {o : Int} {x : Int32} {pcN : Nat} (hd : decode bytes pc = .ok (.ifCond .eq o, 3)) (ho : 0 ≤ (pc : Int) + o) (hp : ((pc : Int) + o).toNat = pc') (hq : pc + 3 = pcN) (G : x = 0 → Go w l R n0 Y h k n pc' Ls rest) (G' : ¬ x = 0 → Go w l R n0 Y h k n pcN Ls rest) : Go w l R n0 Y h k n pc Ls (.int x :: rest) := by
  subst hq
  by_cases q : x = 0
  · exact Go.plain (fun T t H K => XS.ifYes H C.hx rfl (pc0 := pc) rfl (C.d hd) rfl ((if0 _ _).trans (teq q).1) ho hp K) (G q)
  · exact Go.plain (fun T t H K => XS.ifNo H C.hx rfl (C.d hd) rfl ((if0 _ _).trans (feq q).1) K) (G' q)
theorem g_icmp_ne (C : Cx w Z own bytes ml rt nm R n0 Q Y) {o : Int} {x y : Int32} {pcN : Nat} (hd : decode bytes pc = .ok (.if_icmp .ne o, 3)) (ho : 0 ≤ (pc : Int) + o) (hp : ((pc : Int) + o).toNat = pc') (hq : pc + 3 = pcN) (G : ¬ x = y → Go w l R n0 Y h k n pc' Ls rest) (G' : x = y → Go w l R n0 Y h k n pcN Ls rest) : Go w l R n0 Y h k n pc Ls (.int y :: .int x :: rest) := by
  subst hq
  by_cases q : x = y
  · exact Go.plain (fun T t H K => XS.icmpNo H C.hx rfl (C.d hd) rfl (teq q).2 K) (G' q)
  · exact Go.plain (fun T t H K => XS.icmpYes H C.hx rfl (pc0 := pc) rfl (C.d hd) rfl (feq q).2 ho hp K) (G q)
theorem g_if_ne (C : Cx w Z own bytes ml rt nm R n0 Q Y) {o : Int} {x : Int32} {pcN : Nat} (hd : decode bytes pc = .ok (.ifCond .ne o, 3)) (ho : 0 ≤ (pc : Int) + o) (hp : ((pc : Int) + o).toNat = pc') (hq : pc + 3 = pcN) (G : ¬ x = 0 → Go w l R n0 Y h k n pc' Ls rest) (G' : x = 0 → Go w l R n0 Y h k n pcN Ls rest) : Go w l R n0 Y h k n pc Ls (.int x :: rest) := by
  subst hq
  by_cases q : x = 0
  · exact Go.plain (fun T t H K => XS.ifNo H C.hx rfl (C.d hd) rfl ((if0 _ _).trans (teq q).2) K) (G' q)
  · exact Go.plain (fun T t H K => XS.ifYes H C.hx rfl (pc0 := pc) rfl (C.d hd) rfl ((if0 _ _).trans (feq q).2) ho hp K) (G q)
theorem g_ifnullY (C : Cx w Z own bytes ml rt nm R n0 Q Y) {o : Int} (hd : decode bytes pc = .ok (.ifnull o, 3)) (ho : 0 ≤ (pc : Int) + o) (hp : ((pc : Int) + o).toNat = pc') (G : Go w l R n0 Y h k n pc' Ls rest) : Go w l R n0 Y h k n pc Ls (.null :: rest) := Go.plain (fun T t H K => XS.ifnullYes H C.hx rfl (pc0 := pc) rfl (C.d hd) rfl ho hp K) G
theorem g_ifnullN (C : Cx w Z own bytes ml rt nm R n0 Q Y) {o : Int} {b : Addr} (hd : decode bytes pc = .ok (.ifnull o, 3)) (hp : pc + 3 = pc') (G : Go w l R n0 Y h k n pc' Ls rest) : Go w l R n0 Y h k n pc Ls (.ref b :: rest) := by subst hp; exact Go.plain (fun T t H K => XS.ifnullNo H C.hx rfl (C.d hd) rfl K) G
theorem g_ifnonnullY (C : Cx w Z own bytes ml rt nm R n0 Q Y) {o : Int} {b : Addr} (hd : decode bytes pc = .ok (.ifnonnull o, 3)) (ho : 0 ≤ (pc : Int) + o) (hp : ((pc : Int) + o).toNat = pc') (G : Go w l R n0 Y h k n pc' Ls rest) : Go w l R n0 Y h k n pc Ls (.ref b :: rest) := Go.plain (fun T t H K => XS.ifnonnullYes H C.hx rfl (pc0 := pc) rfl (C.d hd) rfl ho hp K) G
theorem g_ifnonnullN (C : Cx w Z own bytes ml rt nm R n0 Q Y) {o : Int} (hd : decode bytes pc = .ok (.ifnonnull o, 3)) (hp : pc + 3 = pc') (G : Go w l R n0 Y h k n pc' Ls rest) : Go w l R n0 Y h k n pc Ls (.null :: rest) := by subst hp; exact Go.plain (fun T t H K => XS.ifnonnullNo H C.hx rfl (C.d hd) rfl K) G
theorem g_acmp (C : Cx w Z own bytes ml rt nm R n0 Q Y) {cd : ACond} {o : Int} {x y : Value} (h1 : x.isRef = true) (h2 : y.isRef = true) (same : Bool) (hd : decode bytes pc = .ok (.if_acmp cd o, 3)) (ho : 0 ≤ (pc : Int) + o) (hs : decide (x = y) = same) (hp : pc' = if acV cd same = true then ((pc : Int) + o).toNat else pc + 3) (G : Go w l R n0 Y h k n pc' Ls rest) : Go w l R n0 Y h k n pc Ls (y :: x :: rest) :=
  Go.stand (fun T t locs X hT K => Jvm.RoadKit.acmp (g := mkF w.m pc Ls (y :: x :: rest)) X C.hx rfl h1 h2 (pc0 := pc) rfl (C.d hd) rfl hs ho hp K) G
theorem g_ldcI (C : Cx w Z own bytes ml rt nm R n0 Q Y) {i : Nat} {v : Int32} (w1 : (Jvm.Cond.constant own i v).before a0 Z = true) (hd : decode bytes pc = .ok (.ldc i, 2)) (hp : pc + 2 = pc') (G : Go w l R n0 Y h k n pc' Ls (.int v :: st)) : Go w l R n0 Y h k n pc Ls st := by
  subst hp; exact Go.stand (fun T t locs X hT K => X.ldcInt C.hx C.hown (mvT C.hZ w1) (g := mkF w.m pc Ls st) rfl (C.d hd) _ K) G
theorem g_ldc2J (C : Cx w Z own bytes ml rt nm R n0 Q Y) {i : Nat} {v : Int64} (w1 : (Jvm.Cond.constantLong own i v).before a0 Z = true) (hd : decode bytes pc = .ok (.ldc2_w i, 3)) (hp : pc + 3 = pc') (G : Go w l R n0 Y h k n pc' Ls (.long v :: st)) : Go w l R n0 Y h k n pc Ls st := by
  subst hp; exact Go.stand (fun T t locs X hT K => X.ldc2Long C.hx C.hown (mvT C.hZ w1) (g := mkF w.m pc Ls st) rfl (C.d hd) _ K) G
theorem Go.leave {v : Option Value} (L : Lv w R n0 Q Y) (hv : w.meth.sig.returnType = none → v = none) (hlk : w.meth.locks = false) (hQ : Q v h) (hc : k ≤ R.cells) (hs : n ≤ R.slots)
    (f : ∀ (T : State) (locs : List Loc) (fs : List Frame), Stand w.p l w.e R w.s w.m w.as w.below w.meth w.c T locs k n → (∀ (f : JFrame) (acts : List Action), f.method = w.m → f.locked = none → f.entered = [] → (doReturn w.e (T.setTop f) acts v).1 = T.setFrames fs) → Steps w.p.tables w.e w.below (T.setTop (mkF w.m pc Ls st)) (T.setFrames fs)) : Go w l R n0 Y h k n pc Ls st := by
  intro T locs X hT hn N
  obtain ⟨fs, hr, hrun, hended, hW, hsame⟩ := X.leave (v := v) hv hlk
  exact ⟨_, _, f T locs fs X hr, hrun, hended, L T fs locs k n v hW hsame N (by rw [hT]; exact hn.2) hc hs (by rw [hT]; exact hQ)⟩
theorem g_ret (C : Cx w Z own bytes ml rt nm R n0 Q Y) (hr : rt = none) (hd : decode bytes pc = .ok (.return_, 1)) (hQ : Q none h) (hc : k ≤ R.cells) (hs : n ≤ R.slots) : Go w l R n0 Y h k n pc Ls [] :=
  Go.leave C.lv (v := none) (fun _ => rfl) C.locks hQ hc hs (fun T locs fs X hl => X.returnOut C.hx (C.ret.trans hr) (C.d hd) hl)
theorem g_retI (C : Cx w Z own bytes ml rt nm R n0 Q Y) (hr : rt = some .int) (hd : decode bytes pc = .ok (.ireturn, 1)) {z : Int32} (hQ : Q (some (.int z)) h) (hc : k ≤ R.cells) (hs : n ≤ R.slots) : Go w l R n0 Y h k n pc Ls [.int z] :=
  Go.leave C.lv (v := some (.int z)) (fun q => by rw [C.ret, hr] at q; cases q) C.locks hQ hc hs (fun T locs fs X hl => X.ireturnOut C.hx (t := .int) (C.ret.trans hr) rfl (Or.inl rfl) (C.d hd) hl)
theorem g_retN (C : Cx w Z own bytes ml rt nm R n0 Q Y) {t : FieldType} (hr : rt = some t) (ht : t = .boolean ∨ t = .byte ∨ t = .char ∨ t = .short) (hd : decode bytes pc = .ok (.ireturn, 1)) {z : Int32} (hQ : Q (some (.int (nar t z))) h) (hc : k ≤ R.cells) (hs : n ≤ R.slots) : Go w l R n0 Y h k n pc Ls (.int z :: rest) :=
  Go.leave C.lv (v := some (.int (nar t z))) (fun q => by rw [C.ret, hr] at q; cases q) C.locks hQ hc hs (fun T locs fs X hl => retN X C.hx (C.ret.trans hr) ht (C.d hd) hl)
theorem g_retA (C : Cx w Z own bytes ml rt nm R n0 Q Y) {t : FieldType} {v : Value} (hv : v.isRef = true) (hr : rt = some t) (ht : t.isReference = true) (hd : decode bytes pc = .ok (.areturn, 1)) (hQ : Q (some v) h) (hc : k ≤ R.cells) (hs : n ≤ R.slots) : Go w l R n0 Y h k n pc Ls [v] :=
  Go.leave C.lv (v := some v) (fun q => by rw [C.ret, hr] at q; cases q) C.locks hQ hc hs (fun T locs fs X hl => X.areturnOut C.hx hv (C.ret.trans hr) ht (C.d hd) hl)
theorem g_retL (C : Cx w Z own bytes ml rt nm R n0 Q Y) (hr : rt = some .long) (hd : decode bytes pc = .ok (.lreturn, 1)) {z : Int64} (hQ : Q (some (.long z)) h) (hc : k ≤ R.cells) (hs : n ≤ R.slots) : Go w l R n0 Y h k n pc Ls (.long z :: rest) :=
  Go.leave C.lv (v := some (.long z)) (fun q => by rw [C.ret, hr] at q; cases q) C.locks hQ hc hs (fun T locs fs X hl => by
    have hx := C.hx
    have hd' := C.d hd
    have hr' := C.ret.trans hr
    jvm_step X.here [X.here.top, hx, hd', X.method', hr', narrow]
    first | (intro acts; rw [hl _ acts rfl rfl rfl]) | rw [hl _ _ rfl rfl rfl]
    exact Steps.refl _)
/-- an array by a function of its places -/
def Arf (Z : State) (h : Heap) (a : Addr) (ad : String) (ty : FieldType) (z : Int32) (f : Nat → Value) : Prop := Exa Z h a ad ∧ ∃ c : Cell, Arr Z h a c ty ∧ c.slots.size = z.toNatClampNeg ∧ ¬ z < 0 ∧ ∀ i, i < c.slots.size → c.slots[i]? = some (f i) ∧ fits ty (f i) = true
def upd (f : Nat → Value) (j : Nat) (v : Value) : Nat → Value := fun i => if i = j then v else f i
theorem upd_same (f : Nat → Value) (j : Nat) (v : Value) : upd f j v j = v := by simp [upd]
theorem upd_other {f : Nat → Value} {j i : Nat} {v : Value} (q : i ≠ j) : upd f j v i = f i := by simp [upd, q]
variable {a b : Addr} {ad : String} {ty : FieldType} {z : Int32} {f : Nat → Value} {h' : Heap}
theorem Arf.lt (F : Arf Z h a ad ty z f) : a < h.size := F.1.lt
theorem Arf.exa (F : Arf Z h a ad ty z f) : Exa Z h a ad := F.1
theorem Arf.ext (F : Arf Z h a ad ty z f) (E : Ext h h') : Arf Z h' a ad ty z f := by
  obtain ⟨e, c, A, r⟩ := F; exact ⟨e.ext E, c, A.ext E, r⟩
theorem Arf.other {sl : Nat} {v : Value} (F : Arf Z h b ad ty z f) (W : Wr h h' a sl v) (q : b ≠ a) : Arf Z h' b ad ty z f := by
  obtain ⟨e, c, A, r⟩ := F; exact ⟨e.wr W, c, A.other W q, r⟩
theorem Arf.keep {ws : List Addr} (F : Arf Z h a ad ty z f) (K : Keep h h' ws) (q : a ∉ ws) : Arf Z h' a ad ty z f := by
  obtain ⟨e, c, A, r⟩ := F; exact ⟨e.keep K, c, ⟨K.2.1 _ _ A.1 q, A.2⟩, r⟩
theorem Arf.nn (F : Arf Z h a ad ty z f) : ¬ z < 0 := by obtain ⟨-, c, -, -, r, -⟩ := F; exact r
theorem Arf.fits (F : Arf Z h a ad ty z f) {i : Nat} (q : i < z.toNatClampNeg) : fits ty (f i) = true := by
  obtain ⟨-, c, -, S, -, r⟩ := F; exact (r i (by rw [S]; exact q)).2
theorem Arf.congr {g : Nat → Value} (F : Arf Z h a ad ty z f) (q : ∀ i, i < z.toNatClampNeg → f i = g i) : Arf Z h a ad ty z g := by
  obtain ⟨e, c, A, S, N, r⟩ := F; exact ⟨e, c, A, S, N, fun i hi => by rw [← q i (S ▸ hi)]; exact r i hi⟩
theorem Arf.set {j : Int32} {v : Value} (F : Arf Z h a ad ty z f) (W : Wr h h' a j.toNatClampNeg v) (hv : Jvm.fits ty v = true) (hj : ¬ j < 0) : Arf Z h' a ad ty z (upd f j.toNatClampNeg v) := by
  obtain ⟨e, c, A, S, N, r⟩ := F
  refine ⟨e.wr W, _, A.same W, by rw [sz_set]; exact S, N, fun i hi => ?_⟩
  rw [sz_set] at hi
  by_cases q : i = j.toNatClampNeg
  · subst q; refine ⟨?_, by rw [upd_same]; exact hv⟩
    rw [upd_same]; simp [Cell.setSlot, hi]
  · rw [upd_other q]; refine ⟨?_, (r i hi).2⟩
    rw [← (r i hi).1]; exact Array.getElem?_setIfInBounds_ne (Ne.symm q)
theorem nat_lt {j z : Int32} (h1 : ¬ j < 0) (h2 : j < z) : j.toNatClampNeg < z.toNatClampNeg := by
  rw [Int32.lt_iff_toInt_lt] at h1 h2
  have : (0 : Int32).toInt = 0 := rfl
  simp only [Int32.toNatClampNeg]; omega
theorem Arf.arv (F : Arf Z h a ad ty z f) (d : Value) : ∃ kc, Arv Z h a kc ty z ((List.range z.toNatClampNeg).map f) d := by
  obtain ⟨e, c, A, S, N, r⟩ := F
  refine ⟨c.cls, c, A, rfl, S, N, fun i hi => ?_, fun i hi => ?_⟩
  · rw [(r i hi).1]; rw [S] at hi; simp [List.getD, hi]
  · have q := (r i hi).2; rw [S] at hi; simpa [List.getD, hi] using q
theorem Arf.of_arv {kc : ClassId} {vs : List Value} {d : Value} (e : Exa Z h a ad) (V : Arv Z h a kc ty z vs d) : Arf Z h a ad ty z (fun i => vs.getD i d) := by
  obtain ⟨c, A, -, S, N, H, G⟩ := V
  exact ⟨e, c, A, S, N, fun i hi => ⟨H i hi, G i hi⟩⟩
theorem g_new (C : Cx w Z own bytes ml rt nm R n0 Q Y) {i : Nat} {cl : String} {m : Nat} (w1 : (Jvm.Cond.classLink own i cl).before a0 Z = true) (w2 : (Jvm.Cond.instantiable cl m).before a0 Z = true) (w3 : (Jvm.Cond.initialized cl).before a0 Z = true) (hd : decode bytes pc = .ok (.new i, 3)) (hp : pc + 3 = pc') {k' n' : Nat} (hk : k + 1 = k') (hn : n + m = n') (hc : k' ≤ R.cells) (hs : n' ≤ R.slots)
    (G : ∀ (h' : Heap) (b : Addr), Ext h h' → h.size ≤ b → n0 ≤ b → Exa Z h' b cl → (∀ {O nm d : String} {ty : FieldType}, Laid Z a0 cl O nm d → parseFieldDescriptor d = some ty → Fld Z h' b O nm d (defaultValue ty)) → Go w l R n0 Y h' k' n' pc' Ls (.ref b :: st)) : Go w l R n0 Y h k n pc Ls st := by
  subst hp hk hn
  intro T locs X hT hn N
  obtain ⟨T', h', X', e', E, A, D, -, s'⟩ := newO X C.hx C.hZ C.hown w1 w2 w3 hT (g := mkF w.m pc Ls st) rfl (C.d hd) hc hs
  obtain ⟨s₂, o, h1, h2⟩ := G h' _ E (Nat.le_refl _) hn.1 A D T' locs X' e' (own_grow hn E.1) N
  exact ⟨s₂, o, s' _ h1, h2⟩
theorem g_newarr (C : Cx w Z own bytes ml rt nm R n0 Q Y) {aty : ArrayType} {ad : String} {z : Int32} {cap : Nat} (w1 : (Jvm.Cond.arrayClass (newarray.typeOf aty)).before a0 Z = true) (hd : decode bytes pc = .ok (.newarray aty, 2)) (hp : pc + 2 = pc') (had : "[" ++ (newarray.typeOf aty).toString = ad) (hz : ¬ z < 0) (hcap : z.toNatClampNeg ≤ cap) (hb : cap * 8 ≤ 536870912) {k' n' : Nat} (hk : k + 1 = k') (hn : n + cap = n') (hc : k' ≤ R.cells) (hs : n' ≤ R.slots) (hfit : Jvm.fits (newarray.typeOf aty) (defaultValue (newarray.typeOf aty)) = true)
    (G : ∀ (h' : Heap) (b : Addr), Ext h h' → h.size ≤ b → n0 ≤ b → Arf Z h' b ad (newarray.typeOf aty) z (fun _ => defaultValue (newarray.typeOf aty)) → Go w l R n0 Y h' k' n' pc' Ls (.ref b :: rest)) : Go w l R n0 Y h k n pc Ls (.int z :: rest) := by
  subst hp hk hn
  intro T locs X hT hn N
  obtain ⟨T', h', cA, X', e', E, A, Ex, s'⟩ := newPE X C.hx C.hZ w1 hT (g := mkF w.m pc Ls (.int z :: rest)) rfl (C.d hd) rfl hz hcap hb hc hs had
  obtain ⟨s₂, o, h1, h2⟩ := G h' _ E (Nat.le_refl _) hn.1 ⟨Ex, _, A, sz_new _ _ _, hz, fun i hi => ⟨by rw [sz_new] at hi; simp [newA, hi], hfit⟩⟩ T' locs X' e' (own_grow hn E.1) N
  exact ⟨s₂, o, s' _ h1, h2⟩
theorem g_getF (C : Cx w Z own bytes ml rt nm R n0 Q Y) {R0 O nf d host : String} {i : Nat} {v : Value} (w1 : (Jvm.Cond.fieldLink own i R0 nf d).before a0 Z = true ∨ (Jvm.Cond.fieldLinkNest own i R0 nf d host).before a0 Z = true) (via : Via Z R0 O nf d) (F : Fld Z h a O nf d v) (hd : decode bytes pc = .ok (.getfield i, 3)) (hp : pc + 3 = pc')
    (G : Go w l R n0 Y h k n pc' Ls (v :: rest)) : Go w l R n0 Y h k n pc Ls (.ref a :: rest) := by
  subst hp
  intro T locs X hT hn N
  obtain ⟨T', X', e', s'⟩ := getF X C.hx C.hZ C.hown w1 via hT F (g := mkF w.m pc Ls (.ref a :: rest)) rfl rfl (C.d hd)
  obtain ⟨s₂, o, h1, h2⟩ := G T' locs X' e' hn N
  exact ⟨s₂, o, s' _ h1, h2⟩
theorem g_getS (C : Cx w Z own bytes ml rt nm R n0 Q Y) {R0 O nf d host : String} {i : Nat} {v : Value} (w1 : (Jvm.Cond.fieldLink own i R0 nf d).before a0 Z = true ∨ (Jvm.Cond.fieldLinkNest own i R0 nf d host).before a0 Z = true) (via : Via Z R0 O nf d) (F : Sta Z h O nf d v) (hd : decode bytes pc = .ok (.getstatic i, 3)) (hp : pc + 3 = pc')
    (G : Go w l R n0 Y h k n pc' Ls (v :: st)) : Go w l R n0 Y h k n pc Ls st := by
  subst hp
  intro T locs X hT hn N
  obtain ⟨T', X', e', s'⟩ := getS2 X C.hx C.hZ C.hown w1 via hT F (g := mkF w.m pc Ls st) rfl (C.d hd)
  obtain ⟨s₂, o, h1, h2⟩ := G T' locs X' e' hn N
  exact ⟨s₂, o, s' _ h1, h2⟩
theorem g_putF (C : Cx w Z own bytes ml rt nm R n0 Q Y) {R0 O nf d host cl : String} {i kk : Nat} {ty : FieldType} {v old : Value} (w1 : (Jvm.Cond.fieldLink own i R0 nf d).before a0 Z = true ∨ (Jvm.Cond.fieldLinkNest own i R0 nf d host).before a0 Z = true) (via : Via Z R0 O nf d) (F : Fld Z h a O nf d old) (E : Exa Z h a cl) (L : (Jvm.Cond.lays cl O nf d).before a0 Z = true ∨ ((Jvm.Cond.laysFinal cl O nf d).before a0 Z = true ∧ own = O ∧ nm = "<init>")) (wi : (Jvm.Cond.instantiable cl kk).before a0 Z = true)
    (hty : parseFieldDescriptor d = some ty) (hnr : narrow ty v = v) (hf : Jvm.fits ty v = true) (hd : decode bytes pc = .ok (.putfield i, 3)) (hp : pc + 3 = pc') (ha : n0 ≤ a)
    (G : ∀ h' : Heap, Wr h h' a (Jvm.RoadKit.slotOf Z O nf d) v → Go w l R n0 Y h' k n pc' Ls rest) : Go w l R n0 Y h k n pc Ls (v :: .ref a :: rest) := by
  subst hp
  intro T locs X hT hn N
  obtain ⟨T', h', X', e', W, s'⟩ := putF X C.hx C.hZ C.hown w1 via hT F E (L.imp id fun q => ⟨q.1, q.2.1, C.name.trans q.2.2⟩) wi hty hnr hf (g := mkF w.m pc Ls (v :: .ref a :: rest)) rfl rfl (C.d hd)
  obtain ⟨s₂, o, h1, h2⟩ := G h' W T' _ X' e' (by rw [W.size]; exact hn) (Fr.snoc X' N ha)
  exact ⟨s₂, o, s' _ h1, h2⟩
theorem g_putFN (C : Cx w Z own bytes ml rt nm R n0 Q Y) {R0 O nf d cl : String} {i kk : Nat} {ty : FieldType} {v v' old : Value} (w1 : (Jvm.Cond.fieldLink own i R0 nf d).before a0 Z = true) (via : Via Z R0 O nf d) (F : Fld Z h a O nf d old) (E : Exa Z h a cl) (L : (Jvm.Cond.lays cl O nf d).before a0 Z = true ∨ ((Jvm.Cond.laysFinal cl O nf d).before a0 Z = true ∧ own = O ∧ nm = "<init>")) (wi : (Jvm.Cond.instantiable cl kk).before a0 Z = true)
    (hty : parseFieldDescriptor d = some ty) (hnr : narrow ty v = v') (hf : Jvm.fits ty v' = true) (hd : decode bytes pc = .ok (.putfield i, 3)) (hp : pc + 3 = pc') (ha : n0 ≤ a)
    (G : ∀ h' : Heap, Wr h h' a (Jvm.RoadKit.slotOf Z O nf d) v' → Go w l R n0 Y h' k n pc' Ls rest) : Go w l R n0 Y h k n pc Ls (v :: .ref a :: rest) := by
  subst hp
  intro T locs X hT hn N
  obtain ⟨T', h', X', e', W, s'⟩ := putFN X C.hx C.hZ C.hown w1 via hT F E (L.imp id fun q => ⟨q.1, q.2.1, C.name.trans q.2.2⟩) wi hty hnr hf (g := mkF w.m pc Ls (v :: .ref a :: rest)) rfl rfl (C.d hd)
  obtain ⟨s₂, o, h1, h2⟩ := G h' W T' _ X' e' (by rw [W.size]; exact hn) (Fr.snoc X' N ha)
  exact ⟨s₂, o, s' _ h1, h2⟩
theorem g_bastore (C : Cx w Z own bytes ml rt nm R n0 Q Y) {j x : Int32} (F : Arf Z h a ad .byte z f) (hj : ¬ j < 0) (hz : j < z) (hd : decode bytes pc = .ok (.bastore, 1)) (hp : pc + 1 = pc') (ha : n0 ≤ a)
    (G : ∀ h' : Heap, Wr h h' a j.toNatClampNeg (.int (nar .byte x)) → Arf Z h' a ad .byte z (upd f j.toNatClampNeg (.int (nar .byte x))) → Go w l R n0 Y h' k n pc' Ls rest) : Go w l R n0 Y h k n pc Ls (.int x :: .int j :: .ref a :: rest) := by
  subst hp
  intro T locs X hT hn N
  obtain ⟨-, c, A, S, -⟩ := id F
  obtain ⟨T', h', X', e', W, s'⟩ := stB X C.hx C.hZ hT A (inb_of S ⟨hj, hz⟩) (g := mkF w.m pc Ls (.int x :: .int j :: .ref a :: rest)) rfl rfl (C.d hd)
  obtain ⟨s₂, o, h1, h2⟩ := G h' W (F.set W (fits_nar_byte _) hj) T' _ X' e' (by rw [W.size]; exact hn) (Fr.snoc X' N ha)
  exact ⟨s₂, o, s' _ h1, h2⟩
theorem g_zastore (C : Cx w Z own bytes ml rt nm R n0 Q Y) {j x : Int32} (F : Arf Z h a ad .boolean z f) (hj : ¬ j < 0) (hz : j < z) (hd : decode bytes pc = .ok (.bastore, 1)) (hp : pc + 1 = pc') (ha : n0 ≤ a)
    (G : ∀ h' : Heap, Wr h h' a j.toNatClampNeg (.int (nar .boolean x)) → Arf Z h' a ad .boolean z (upd f j.toNatClampNeg (.int (nar .boolean x))) → Go w l R n0 Y h' k n pc' Ls rest) : Go w l R n0 Y h k n pc Ls (.int x :: .int j :: .ref a :: rest) := by
  subst hp
  intro T locs X hT hn N
  obtain ⟨-, c, A, S, -⟩ := id F
  obtain ⟨T', h', X', e', W, s'⟩ := stZ X C.hx C.hZ hT A (inb_of S ⟨hj, hz⟩) (g := mkF w.m pc Ls (.int x :: .int j :: .ref a :: rest)) rfl rfl (C.d hd)
  obtain ⟨s₂, o, h1, h2⟩ := G h' W (F.set W (fits_nar_bool _) hj) T' _ X' e' (by rw [W.size]; exact hn) (Fr.snoc X' N ha)
  exact ⟨s₂, o, s' _ h1, h2⟩
theorem g_castore (C : Cx w Z own bytes ml rt nm R n0 Q Y) {j x : Int32} (F : Arf Z h a ad .char z f) (hj : ¬ j < 0) (hz : j < z) (hd : decode bytes pc = .ok (.castore, 1)) (hp : pc + 1 = pc') (ha : n0 ≤ a)
    (G : ∀ h' : Heap, Wr h h' a j.toNatClampNeg (.int (nar .char x)) → Arf Z h' a ad .char z (upd f j.toNatClampNeg (.int (nar .char x))) → Go w l R n0 Y h' k n pc' Ls rest) : Go w l R n0 Y h k n pc Ls (.int x :: .int j :: .ref a :: rest) := by
  subst hp
  intro T locs X hT hn N
  obtain ⟨-, c, A, S, -⟩ := id F
  obtain ⟨T', h', X', e', W, s'⟩ := stC X C.hx C.hZ hT A (inb_of S ⟨hj, hz⟩) (g := mkF w.m pc Ls (.int x :: .int j :: .ref a :: rest)) rfl rfl (C.d hd)
  obtain ⟨s₂, o, h1, h2⟩ := G h' W (F.set W (fits_nar_char _) hj) T' _ X' e' (by rw [W.size]; exact hn) (Fr.snoc X' N ha)
  exact ⟨s₂, o, s' _ h1, h2⟩
theorem g_iastore (C : Cx w Z own bytes ml rt nm R n0 Q Y) {j x : Int32} (F : Arf Z h a ad .int z f) (hj : ¬ j < 0) (hz : j < z) (hd : decode bytes pc = .ok (.iastore, 1)) (hp : pc + 1 = pc') (ha : n0 ≤ a)
    (G : ∀ h' : Heap, Wr h h' a j.toNatClampNeg (.int x) → Arf Z h' a ad .int z (upd f j.toNatClampNeg (.int x)) → Go w l R n0 Y h' k n pc' Ls rest) : Go w l R n0 Y h k n pc Ls (.int x :: .int j :: .ref a :: rest) := by
  subst hp
  intro T locs X hT hn N
  obtain ⟨-, c, A, S, -⟩ := id F
  obtain ⟨T', h', X', e', W, s'⟩ := stI X C.hx C.hZ hT A (inb_of S ⟨hj, hz⟩) (g := mkF w.m pc Ls (.int x :: .int j :: .ref a :: rest)) rfl rfl (C.d hd)
  obtain ⟨s₂, o, h1, h2⟩ := G h' W (F.set W (rfl) hj) T' _ X' e' (by rw [W.size]; exact hn) (Fr.snoc X' N ha)
  exact ⟨s₂, o, s' _ h1, h2⟩
theorem g_baload (C : Cx w Z own bytes ml rt nm R n0 Q Y) {j : Int32} {v : Value} (F : Arf Z h a ad .byte z f) (hj : ¬ j < 0) (hz : j < z) (hv : f j.toNatClampNeg = v) (hd : decode bytes pc = .ok (.baload, 1)) (hp : pc + 1 = pc')
    (G : Go w l R n0 Y h k n pc' Ls (v :: rest)) : Go w l R n0 Y h k n pc Ls (.int j :: .ref a :: rest) := by
  subst hp
  obtain ⟨-, c, A, S, -, r⟩ := F
  exact Go.stand (fun T t locs X hT K => X.baloadBytes C.hx (j := j) (v := v) (by rw [hT]; exact A.1) (State.isArrayOf_alike C.hZ.alike A.2.1) A.2.2 (inb_of S ⟨hj, hz⟩) (by rw [(r _ (by rw [S]; exact nat_lt hj hz)).1, hv]) (g := mkF w.m pc Ls (.int j :: .ref a :: rest)) rfl rfl (C.d hd) _ K) G
theorem g_zaload (C : Cx w Z own bytes ml rt nm R n0 Q Y) {j : Int32} {v : Value} (F : Arf Z h a ad .boolean z f) (hj : ¬ j < 0) (hz : j < z) (hv : f j.toNatClampNeg = v) (hd : decode bytes pc = .ok (.baload, 1)) (hp : pc + 1 = pc')
    (G : Go w l R n0 Y h k n pc' Ls (v :: rest)) : Go w l R n0 Y h k n pc Ls (.int j :: .ref a :: rest) := by
  subst hp
  obtain ⟨-, c, A, S, -, r⟩ := F
  exact Go.stand (fun T t locs X hT K => X.baloadBooleans C.hx (j := j) (v := v) (by rw [hT]; exact A.1) (State.isArrayOf_alike C.hZ.alike A.2.1) A.2.2 (inb_of S ⟨hj, hz⟩) (by rw [(r _ (by rw [S]; exact nat_lt hj hz)).1, hv]) (g := mkF w.m pc Ls (.int j :: .ref a :: rest)) rfl rfl (C.d hd) _ K) G
theorem g_caload (C : Cx w Z own bytes ml rt nm R n0 Q Y) {j : Int32} {v : Value} (F : Arf Z h a ad .char z f) (hj : ¬ j < 0) (hz : j < z) (hv : f j.toNatClampNeg = v) (hd : decode bytes pc = .ok (.caload, 1)) (hp : pc + 1 = pc')
    (G : Go w l R n0 Y h k n pc' Ls (v :: rest)) : Go w l R n0 Y h k n pc Ls (.int j :: .ref a :: rest) := by
  subst hp
  obtain ⟨-, c, A, S, -, r⟩ := F
  exact Go.stand (fun T t locs X hT K => X.caload C.hx (j := j) (v := v) (by rw [hT]; exact A.1) (State.isArrayOf_alike C.hZ.alike A.2.1) A.2.2 (inb_of S ⟨hj, hz⟩) (by rw [(r _ (by rw [S]; exact nat_lt hj hz)).1, hv]) (g := mkF w.m pc Ls (.int j :: .ref a :: rest)) rfl rfl (C.d hd) _ K) G
theorem g_iaload (C : Cx w Z own bytes ml rt nm R n0 Q Y) {j : Int32} {v : Value} (F : Arf Z h a ad .int z f) (hj : ¬ j < 0) (hz : j < z) (hv : f j.toNatClampNeg = v) (hd : decode bytes pc = .ok (.iaload, 1)) (hp : pc + 1 = pc')
    (G : Go w l R n0 Y h k n pc' Ls (v :: rest)) : Go w l R n0 Y h k n pc Ls (.int j :: .ref a :: rest) := by
  subst hp
  obtain ⟨-, c, A, S, -, r⟩ := F
  exact Go.stand (fun T t locs X hT K => X.iaload C.hx (j := j) (v := v) (by rw [hT]; exact A.1) (State.isArrayOf_alike C.hZ.alike A.2.1) A.2.2 (inb_of S ⟨hj, hz⟩) (by rw [(r _ (by rw [S]; exact nat_lt hj hz)).1, hv]) (g := mkF w.m pc Ls (.int j :: .ref a :: rest)) rfl rfl (C.d hd) _ K) G
theorem g_aaload (C : Cx w Z own bytes ml rt nm R n0 Q Y) {j : Int32} {v : Value} (hty : ty.isReference = true) (F : Arf Z h a ad ty z f) (hj : ¬ j < 0) (hz : j < z) (hv : f j.toNatClampNeg = v) (hd : decode bytes pc = .ok (.aaload, 1)) (hp : pc + 1 = pc')
    (G : Go w l R n0 Y h k n pc' Ls (v :: rest)) : Go w l R n0 Y h k n pc Ls (.int j :: .ref a :: rest) := by
  subst hp
  obtain ⟨-, c, A, S, -, r⟩ := F
  exact Go.stand (fun T t locs X hT K => X.aaload C.hx (j := j) (v := v) (by rw [hT]; exact A.1) (State.isArrayOf_alike C.hZ.alike A.2.1) hty A.2.2 (inb_of S ⟨hj, hz⟩) (by rw [(r _ (by rw [S]; exact nat_lt hj hz)).1, hv]) (g := mkF w.m pc Ls (.int j :: .ref a :: rest)) rfl rfl (C.d hd) _ K) G
theorem g_len (C : Cx w Z own bytes ml rt nm R n0 Q Y) (F : Arf Z h a ad ty z f) (hd : decode bytes pc = .ok (.arraylength, 1)) (hp : pc + 1 = pc') (G : Go w l R n0 Y h k n pc' Ls (.int z :: rest)) : Go w l R n0 Y h k n pc Ls (.ref a :: rest) := by
  subst hp
  obtain ⟨-, c, A, S, M, r⟩ := F
  refine Go.stand (fun T t locs X hT K => X.arraylength C.hx (by rw [hT]; exact A.1) (State.isArrayOf_alike C.hZ.alike A.2.1) (g := mkF w.m pc Ls (.ref a :: rest)) rfl rfl (C.d hd) _ ?_) G
  rw [len_of S M]; exact K
theorem g_cast (C : Cx w Z own bytes ml rt nm R n0 Q Y) {i : Nat} {cl : String} (w1 : (Jvm.Cond.classLink own i cl).before a0 Z = true) (I : Ins Z h a cl true) (hd : decode bytes pc = .ok (.checkcast i, 3)) (hp : pc + 3 = pc') (G : Go w l R n0 Y h k n pc' Ls (.ref a :: rest)) : Go w l R n0 Y h k n pc Ls (.ref a :: rest) := by
  subst hp
  intro T locs X hT hn N
  obtain ⟨T', X', e', s'⟩ := castY X C.hx C.hZ C.hown w1 hT I (g := mkF w.m pc Ls (.ref a :: rest)) rfl rfl (C.d hd)
  obtain ⟨s₂, o, h1, h2⟩ := G T' locs X' e' hn N
  exact ⟨s₂, o, s' _ h1, h2⟩
theorem g_castNull (C : Cx w Z own bytes ml rt nm R n0 Q Y) {i : Nat} (hd : decode bytes pc = .ok (.checkcast i, 3)) (hp : pc + 3 = pc') (G : Go w l R n0 Y h k n pc' Ls (.null :: rest)) : Go w l R n0 Y h k n pc Ls (.null :: rest) := by
  subst hp
  exact Go.stand (fun T t locs X hT K => X.checkcastNull C.hx (g := mkF w.m pc Ls (.null :: rest)) rfl rfl (C.d hd) _ K) G
theorem g_inst (C : Cx w Z own bytes ml rt nm R n0 Q Y) {i : Nat} {cl : String} (w1 : (Jvm.Cond.classLink own i cl).before a0 Z = true) (I : Ins Z h a cl true) (hd : decode bytes pc = .ok (.instanceof i, 3)) (hp : pc + 3 = pc') (G : Go w l R n0 Y h k n pc' Ls (.int 1 :: rest)) : Go w l R n0 Y h k n pc Ls (.ref a :: rest) := by
  subst hp
  intro T locs X hT hn N
  obtain ⟨T', X', e', s'⟩ := instY X C.hx C.hZ C.hown w1 hT I (g := mkF w.m pc Ls (.ref a :: rest)) rfl rfl (C.d hd)
  obtain ⟨s₂, o, h1, h2⟩ := G T' locs X' e' hn N
  exact ⟨s₂, o, s' _ h1, h2⟩
theorem g_initO (C : Cx w Z own bytes ml rt nm R n0 Q Y) {i : Nat} {W : Nat} (w1 : (Jvm.Cond.methodLink own i Lib.objectInit).before a0 Z = true) (w2 : (Jvm.Cond.instanceMethod Lib.objectInit).before a0 Z = true) (w3 : (Jvm.Cond.code Lib.objectInit ⟨#[0xb1]⟩ 1 none).before a0 Z = true) (hd : decode bytes pc = .ok (.invokespecial i, 3)) (hp : pc + 3 = pc') (hml : Ls.size = ml) (hf : 1 ≤ R.frames) (hW : (rest.map fun v => v.category).sum ≤ W) (hl : W + 12 ≤ R.locals)
    (G : Go w l R n0 Y h k n pc' Ls rest) : Go w l R n0 Y h k n pc Ls (.ref a :: rest) := by
  subst hp
  intro T locs X hT hn N
  obtain ⟨T', X', e', s'⟩ := initO X C.hx C.hZ C.hown w1 w2 w3 hT (g := mkF w.m pc Ls (.ref a :: rest)) rfl (by rw [C.hml]; exact hml) rfl (C.d hd) hf (W := W) (by simpa using hW) hl
  obtain ⟨s₂, o, h1, h2⟩ := G T' locs X' e' hn N
  exact ⟨s₂, o, s' _ h1, h2⟩
/-- what a callee's Back says here -/
abbrev PreB (R : Room) (h : Heap) (rm : Room) (as' : Array Value) : Pt → Array Value → Prop := fun A a => a = as' ∧ A.U.heap = h ∧ A.cells + rm.cells ≤ R.cells ∧ A.slots + rm.slots ≤ R.slots
abbrev PostB (n0 : Nat) (rm : Room) (Qc : Option Value → Heap → Prop) : Pt → Array Value → Option Value → Pt → Prop := fun A _ v B => ∃ L, (Qc v B.U.heap ∧ Fr n0 L ∧ A.U.heap.size ≤ B.U.heap.size) ∧ B.locs = A.locs ++ L ∧ B.cells = A.cells + rm.cells ∧ B.slots = A.slots + rm.slots
theorem Met.back {y : MethodName} {yb : ByteArray} {yl : Nat} {yr : Option FieldType} {rm : Room} {as' : Array Value} {Qc : Option Value → Heap → Prop} {W len : Nat} (M : Met l Z y yb yl yr rm n0 h as' Qc) (hn : n0 ≤ h.size) (hZ : Z.Warmed39 w.s.vm) (wc : (Jvm.Cond.code y yb yl yr).before a0 Z = true) (wz : (Jvm.Cond.initialized y.cls).before a0 Z = true) (hf : rm.frames + 1 ≤ R.frames) (hl : W + (yl + 11) + rm.locals ≤ R.locals) :
    Back l R w.p w.e w.below w.s w.as y len W (PreB R h rm as') (PostB n0 rm Qc) :=
  Back.mono (backOf (W := W) (Q := fun v h' L => Qc v h' ∧ Fr n0 L ∧ h.size ≤ h'.size) (M hn []) hZ wc wz hf hl) (fun P a hp => hp) (fun P a v B hp hq => by
    obtain ⟨L, q, r⟩ := hq
    exact ⟨L, ⟨q.1, q.2.1, by rw [hp.2.1]; exact q.2.2⟩, r⟩)
section Calls
variable {y y' : MethodName} {yb : ByteArray} {yl : Nat} {yr : Option FieldType} {rm : Room} {Qc : Option Value → Heap → Prop} {W i k' n' : Nat} {argsL : List Value} {cl : String}
theorem g_static (C : Cx w Z own bytes ml rt nm R n0 Q Y) (w1 : (Jvm.Cond.methodLink own i y).before a0 Z = true) (w2 : (Jvm.Cond.static y).before a0 Z = true) (w3 : (Jvm.Cond.initialized y.cls).before a0 Z = true) (w4 : (Jvm.Cond.code y yb yl yr).before a0 Z = true) (hy : y.cls ≠ "java/lang/invoke/MethodHandle" ∧ y.cls ≠ "java/lang/invoke/VarHandle")
    (hd : decode bytes pc = .ok (.invokestatic i, 3)) (hp : pc + 3 = pc') (hlen : ∀ sig, parseMethodDescriptor y.desc = some sig → argsL.length = sig.parameters.length) (hst : st = argsL.reverse ++ rest) (hW : (rest.map fun v => v.category).sum ≤ W) (hml : Ls.size = ml)
    (B : n0 ≤ h.size → Back l R w.p w.e w.below w.s w.as y 3 W (PreB R h rm argsL.toArray) (PostB n0 rm Qc)) (hk : k + rm.cells = k') (hn : n + rm.slots = n') (hc : k' ≤ R.cells) (hs : n' ≤ R.slots)
    (G : ∀ (v : Option Value) (h' : Heap), Qc v h' → Go w l R n0 Y h' k' n' pc' Ls (v.toList ++ rest)) : Go w l R n0 Y h k n pc Ls st := by
  subst hp hk hn
  intro T locs X hT hn N
  obtain ⟨v, vm₁, ⟨TB, LB, kB, nB⟩, -, X', ⟨L, hQ, l1, l2, l3⟩, s'⟩ := Jvm.LawKit.callS X C.hx C.hown (mvT C.hZ w1) (mvT C.hZ w2) (mvT C.hZ w3) (mvT C.hZ w4) hy (B hn.1) (g := mkF w.m pc Ls st) rfl (by rw [C.hml]; exact hml) (argsL := argsL) (rest := rest) hlen hst (by simpa using hW) (C.d hd) (fun vm₁ h₁ => ⟨rfl, hT, hc, hs⟩)
  dsimp only [Pt.U, Pt.locs, Pt.cells, Pt.slots] at X' l1 l2 l3 s' hQ
  subst l1 l2 l3
  obtain ⟨s₂, o, h1, h2⟩ := G v TB.heap hQ.1 TB _ X' rfl (own_grow hn (hT ▸ hQ.2.2)) (N.app hQ.2.1)
  exact ⟨s₂, o, s' _ h1, h2⟩
theorem g_special (C : Cx w Z own bytes ml rt nm R n0 Q Y) {yl0 : Nat} {yb0 : ByteArray} (hy1 : y.name = "<init>") (w1 : (Jvm.Cond.methodLink own i y).before a0 Z = true) (w2 : (Jvm.Cond.instanceMethod y).before a0 Z = true) (w4 : (Jvm.Cond.code y yb0 yl0 none).before a0 Z = true) (hy : y.cls ≠ "java/lang/invoke/MethodHandle" ∧ y.cls ≠ "java/lang/invoke/VarHandle")
    (hd : decode bytes pc = .ok (.invokespecial i, 3)) (hp : pc + 3 = pc') (hlen : ∀ sig, parseMethodDescriptor y.desc = some sig → argsL.length = sig.parameters.length) (hst : st = argsL.reverse ++ .ref a :: rest) (hW : (rest.map fun v => v.category).sum ≤ W) (hml : Ls.size = ml)
    (B : n0 ≤ h.size → Back l R w.p w.e w.below w.s w.as y 3 W (PreB R h rm (.ref a :: argsL).toArray) (PostB n0 rm Qc)) (hk : k + rm.cells = k') (hn : n + rm.slots = n') (hc : k' ≤ R.cells) (hs : n' ≤ R.slots)
    (G : ∀ (v : Option Value) (h' : Heap), Qc v h' → Go w l R n0 Y h' k' n' pc' Ls (v.toList ++ rest)) : Go w l R n0 Y h k n pc Ls st := by
  subst hp hk hn
  intro T locs X hT hn N
  obtain ⟨v, vm₁, ⟨TB, LB, kB, nB⟩, -, X', ⟨L, hQ, l1, l2, l3⟩, s'⟩ := X.specialBack C.hx hy1 C.hown (mvT C.hZ w1) (mvT C.hZ w2) (mvT C.hZ w4) hy (B hn.1) (g := mkF w.m pc Ls st) rfl (by rw [C.hml]; exact hml) (Steps.refl _) (a := a) (argsL := argsL) (rest := rest) hlen hst (by simpa using hW) (C.d hd) (fun vm₁ h₁ => ⟨rfl, hT, hc, hs⟩)
  dsimp only [Pt.U, Pt.locs, Pt.cells, Pt.slots] at X' l1 l2 l3 s' hQ
  subst l1 l2 l3
  obtain ⟨s₂, o, h1, h2⟩ := G v TB.heap hQ.1 TB _ X' rfl (own_grow hn (hT ▸ hQ.2.2)) (N.app hQ.2.1)
  exact ⟨s₂, o, s'.trans h1, h2⟩
theorem g_virtual (C : Cx w Z own bytes ml rt nm R n0 Q Y) (w1 : (Jvm.Cond.methodLink own i y).before a0 Z = true) (w2 : (Jvm.Cond.declares y).before a0 Z = true) (nf : NotFace w.s y) (w3 : (Jvm.Cond.selects cl y y').before a0 Z = true) (w4 : (Jvm.Cond.instanceMethod y').before a0 Z = true) (hy : y.cls ≠ "java/lang/invoke/MethodHandle" ∧ y.cls ≠ "java/lang/invoke/VarHandle") (E : Exa Z h a cl)
    (hd : decode bytes pc = .ok (.invokevirtual i, 3)) (hp : pc + 3 = pc') (hlen : ∀ sig, parseMethodDescriptor y.desc = some sig → argsL.length = sig.parameters.length) (hst : st = argsL.reverse ++ .ref a :: rest) (hW : (rest.map fun v => v.category).sum ≤ W) (hml : Ls.size = ml)
    (B : n0 ≤ h.size → Back l R w.p w.e w.below w.s w.as y' 3 W (PreB R h rm (.ref a :: argsL).toArray) (PostB n0 rm Qc)) (hk : k + rm.cells = k') (hn : n + rm.slots = n') (hc : k' ≤ R.cells) (hs : n' ≤ R.slots)
    (G : ∀ (v : Option Value) (h' : Heap), Qc v h' → Go w l R n0 Y h' k' n' pc' Ls (v.toList ++ rest)) : Go w l R n0 Y h k n pc Ls st := by
  subst hp hk hn
  intro T locs X hT hn N
  obtain ⟨cq, kq, qa, qb, qc⟩ := isOf C.hZ hT E
  obtain ⟨v, vm₁, ⟨TB, LB, kB, nB⟩, -, X', ⟨L, hQ, l1, l2, l3⟩, s'⟩ := X.virtualBack C.hx C.hown (mvT C.hZ w1) (mvT C.hZ w2) nf (mvT C.hZ w3) (mvT C.hZ w4) hy (B hn.1) qa qc (g := mkF w.m pc Ls st) rfl (by rw [C.hml]; exact hml) (Steps.refl _) (argsL := argsL) (rest := rest) hlen hst (by simpa using hW) (C.d hd) (fun vm₁ h₁ => ⟨rfl, hT, hc, hs⟩)
  dsimp only [Pt.U, Pt.locs, Pt.cells, Pt.slots] at X' l1 l2 l3 s' hQ
  subst l1 l2 l3
  obtain ⟨s₂, o, h1, h2⟩ := G v TB.heap hQ.1 TB _ X' rfl (own_grow hn (hT ▸ hQ.2.2)) (N.app hQ.2.1)
  exact ⟨s₂, o, s'.trans h1, h2⟩
theorem g_nf (C : Cx w Z own bytes ml rt nm R n0 Q Y) (w3 : (Jvm.Cond.selects cl y y).before a0 Z = true) : NotFace w.s y := notFace_of_selects (args := #[]) (mvT C.hZ w3)
theorem g_selPriv (C : Cx w Z own bytes ml rt nm R n0 Q Y) {yo : MethodName} (hc : yo.cls = y.cls) (w3 : (Jvm.Cond.selects yo.cls yo yo).before a0 Z = true) (w2 : (Jvm.Cond.instanceMethod y).before a0 Z = true) (w5 : (Jvm.Cond.privateMethod y).before a0 Z = true) (hy : y.cls ≠ "java/lang/invoke/MethodHandle" ∧ y.cls ≠ "java/lang/invoke/VarHandle") : (Jvm.Cond.selects y.cls y y).before w.as w.s = true := by
  have h3 : (Jvm.Cond.selects yo.cls yo yo).before w.as w.s = true := mvT C.hZ w3
  obtain ⟨c2, r2, m2, -, -, q3, -, kP, hkP, hkPi⟩ := Cond.selects_spec h3
  exact selects_self_of_private (c := m2.cls) (hc ▸ findClass_of_methodNamed q3) hkP hkPi (Cond.privateMethod_at (mvP C.hZ w5 (args := #[]))) (mvT C.hZ w2) hy
theorem g_private (C : Cx w Z own bytes ml rt nm R n0 Q Y) (w1 : (Jvm.Cond.methodLink own i y).before a0 Z = true) (w2 : (Jvm.Cond.instanceMethod y).before a0 Z = true) (w3 : (Jvm.Cond.selects y.cls y y).before w.as w.s = true) (w5 : (Jvm.Cond.privateMethod y).before a0 Z = true) (w4 : (Jvm.Cond.code y yb yl yr).before a0 Z = true) (hy : y.cls ≠ "java/lang/invoke/MethodHandle" ∧ y.cls ≠ "java/lang/invoke/VarHandle") (E : Exa Z h a cl)
    (hd : decode bytes pc = .ok (.invokevirtual i, 3)) (hp : pc + 3 = pc') (hlen : ∀ sig, parseMethodDescriptor y.desc = some sig → argsL.length = sig.parameters.length) (hst : st = argsL.reverse ++ .ref a :: rest) (hW : (rest.map fun v => v.category).sum ≤ W) (hml : Ls.size = ml)
    (B : n0 ≤ h.size → Back l R w.p w.e w.below w.s w.as y 3 W (PreB R h rm (.ref a :: argsL).toArray) (PostB n0 rm Qc)) (hk : k + rm.cells = k') (hn : n + rm.slots = n') (hc : k' ≤ R.cells) (hs : n' ≤ R.slots)
    (G : ∀ (v : Option Value) (h' : Heap), Qc v h' → Go w l R n0 Y h' k' n' pc' Ls (v.toList ++ rest)) : Go w l R n0 Y h k n pc Ls st := by
  subst hp hk hn
  intro T locs X hT hn N
  obtain ⟨cq, q1, q2⟩ := E.cell
  obtain ⟨v, vm₁, ⟨TB, LB, kB, nB⟩, -, X', ⟨L, hQ, l1, l2, l3⟩, s'⟩ := X.privateBack C.hx C.hown (mvT C.hZ w1) (mvT C.hZ w2) w3 (Cond.privateMethod_at (mvP C.hZ w5 (args := #[]))) (mvT C.hZ w4) hy (B hn.1) (g := mkF w.m pc Ls st) rfl (by rw [C.hml]; exact hml) (Steps.refl _) (a := a) (by rw [hT]; exact q1) q2 (argsL := argsL) (rest := rest) hlen hst (by simpa using hW) (C.d hd) (fun vm₁ h₁ => ⟨rfl, hT, hc, hs⟩)
  dsimp only [Pt.U, Pt.locs, Pt.cells, Pt.slots] at X' l1 l2 l3 s' hQ
  subst l1 l2 l3
  obtain ⟨s₂, o, h1, h2⟩ := G v TB.heap hQ.1 TB _ X' rfl (own_grow hn (hT ▸ hQ.2.2)) (N.app hQ.2.1)
  exact ⟨s₂, o, s'.trans h1, h2⟩
theorem g_iface (C : Cx w Z own bytes ml rt nm R n0 Q Y) {ct : Nat} (w1 : (Jvm.Cond.methodLink own i y).before a0 Z = true) (w2 : (Jvm.Cond.declares y).before a0 Z = true) (w3 : (Jvm.Cond.interfaceMethod y.cls y.cls y.name y.desc).before a0 Z = true) (fa : ((Jvm.Cond.interfaceMethod y.cls y.cls y.name y.desc).onTables && (Jvm.Cond.interfaceMethod y.cls y.cls y.name y.desc).keepsFace) = true) (w4 : (Jvm.Cond.selects cl y y').before a0 Z = true) (w5 : (Jvm.Cond.instanceMethod y').before a0 Z = true) (w6 : (Jvm.Cond.publicMethod y').before a0 Z = true) (w7 : (Jvm.Cond.unhidden cl y.name y.desc).before a0 Z = true) (w8 : (Jvm.Cond.castable cl y.cls).before a0 Z = true) (hy : y.cls ≠ "java/lang/invoke/MethodHandle" ∧ y.cls ≠ "java/lang/invoke/VarHandle") (E : Exa Z h a cl)
    (hd : decode bytes pc = .ok (.invokeinterface i ct, 5)) (hp : pc + 5 = pc') (hlen : ∀ sig, parseMethodDescriptor y.desc = some sig → argsL.length = sig.parameters.length) (hst : st = argsL.reverse ++ .ref a :: rest) (hW : (rest.map fun v => v.category).sum ≤ W) (hml : Ls.size = ml)
    (B : n0 ≤ h.size → Back l R w.p w.e w.below w.s w.as y' 5 W (PreB R h rm (.ref a :: argsL).toArray) (PostB n0 rm Qc)) (hk : k + rm.cells = k') (hn : n + rm.slots = n') (hc : k' ≤ R.cells) (hs : n' ≤ R.slots)
    (G : ∀ (v : Option Value) (h' : Heap), Qc v h' → Go w l R n0 Y h' k' n' pc' Ls (v.toList ++ rest)) : Go w l R n0 Y h k n pc Ls st := by
  subst hp hk hn
  intro T locs X hT hn N
  obtain ⟨cq, kq, qa, qb, qc⟩ := isOf C.hZ hT E
  obtain ⟨v, vm₁, ⟨TB, LB, kB, nB⟩, -, X', ⟨L, hQ, l1, l2, l3⟩, s'⟩ := X.interfaceBack C.hx C.hown (mvT C.hZ w1) (mvT C.hZ w2) (mvT C.hZ w3 fa) (mvT C.hZ w4) (mvT C.hZ w5) (mvT C.hZ w6) (mvT C.hZ w7) (mvT C.hZ w8) hy (B hn.1) qa qb qc (g := mkF w.m pc Ls st) rfl (by rw [C.hml]; exact hml) (Steps.refl _) (argsL := argsL) (rest := rest) hlen hst (by simpa using hW) (C.d hd) (fun vm₁ h₁ => ⟨rfl, hT, hc, hs⟩)
  dsimp only [Pt.U, Pt.locs, Pt.cells, Pt.slots] at X' l1 l2 l3 s' hQ
  subst l1 l2 l3
  obtain ⟨s₂, o, h1, h2⟩ := G v TB.heap hQ.1 TB _ X' rfl (own_grow hn (hT ▸ hQ.2.2)) (N.app hQ.2.1)
  exact ⟨s₂, o, s'.trans h1, h2⟩
end Calls
end OwnKit
section OwnKit2
variable {w : Wk} {l : Launch} {R : Room} {Z : State} {a0 : Array Value} {own : String} {bytes : ByteArray} {ml : Nat} {rt : Option FieldType} {nm : String} {n0 : Nat} {Q : Option Value → Heap → Prop} {Y : State → Outcome → Prop} {h : Heap} {k n pc pc' : Nat} {Ls Ls' : Array Slot} {st rest : List Value} {a b : Addr} {ad : String} {ty : FieldType} {z : Int32} {f : Nat → Value} {h' : Heap}
theorem own_getD (f : Nat → Value) (m i : Nat) (d : Value) (hi : i < m) : ((List.range m).map f).getD i d = f i := by simp [List.getD, hi]
theorem g_clone (C : Cx w Z own bytes ml rt nm R n0 Q Y) {i W cap k' n' : Nat} (w1 : (Jvm.Cond.methodLink own i ⟨ad, "clone", "()Ljava/lang/Object;"⟩).before a0 Z = true) (w2 : (Jvm.Cond.sameMethod ad "java/lang/Object" "clone" "()Ljava/lang/Object;").before a0 Z = true) (w3 : (Jvm.Cond.native ⟨"java/lang/Object", "clone", "()Ljava/lang/Object;"⟩).before a0 Z = true) (w4 : (Jvm.Cond.instanceMethod ⟨"java/lang/Object", "clone", "()Ljava/lang/Object;"⟩).before a0 Z = true) (w5 : (Jvm.Cond.selects ad ⟨ad, "clone", "()Ljava/lang/Object;"⟩ ⟨"java/lang/Object", "clone", "()Ljava/lang/Object;"⟩).before a0 Z = true) (w6 : (Jvm.Cond.castable ad "java/lang/Cloneable").before a0 Z = true)
    (F : Arf Z h a ad ty z f) (hd : decode bytes pc = .ok (.invokevirtual i, 3)) (hp : pc + 3 = pc') (hml : Ls.size = ml) (hf : 1 ≤ R.frames) (hW : (rest.map fun v => v.category).sum ≤ W) (hl : W + 14 ≤ R.locals) (hcap : z.toNatClampNeg ≤ cap) (hk : k + 1 = k') (hn : n + cap = n') (hc : k' ≤ R.cells) (hs : n' ≤ R.slots)
    (G : ∀ (h' : Heap) (b : Addr), Ext h h' → h.size ≤ b → n0 ≤ b → Arf Z h' b ad ty z f → Go w l R n0 Y h' k' n' pc' Ls (.ref b :: rest)) : Go w l R n0 Y h k n pc Ls (.ref a :: rest) := by
  subst hp hk hn
  intro T locs X hT hn N
  obtain ⟨kc, V⟩ := F.arv .null
  obtain ⟨T', h', X', e', E, A, Ex, s'⟩ := cloneH X C.hx C.hZ C.hown w1 w2 w3 w4 w5 w6 hT V.arh F.1 (g := mkF w.m pc Ls (.ref a :: rest)) rfl (by rw [C.hml]; exact hml) rfl (C.d hd) hf (W := W) (by simpa using hW) hl hcap hc hs
  have A' : Arv Z h' h.size kc ty z ((List.range z.toNatClampNeg).map f) .null := A
  obtain ⟨s₂, o, h1, h2⟩ := G h' _ E (Nat.le_refl _) hn.1 ((Arf.of_arv Ex A').congr fun i hi => own_getD _ _ _ _ hi) T' locs X' e' (own_grow hn E.1) N
  exact ⟨s₂, o, s' _ h1, h2⟩
theorem own_acopy_list (f g : Nat → Value) (n m dp sp : Nat) (h : dp + m ≤ n) (i : Nat) (hi : i < n) :
    ((((List.range n).map g).take dp ++ (List.range m).map (fun j => ((List.range (sp + m)).map f).getD (sp + j) .null)) ++ ((List.range n).map g).drop (dp + m)).getD i .null = if dp ≤ i ∧ i < dp + m then f (sp + (i - dp)) else g i := by
  have l1 : (((List.range n).map g).take dp).length = dp := by simp; omega
  by_cases c1 : i < dp
  · rw [if_neg (by omega)]
    simp only [List.getD, List.getElem?_append, l1, List.length_append, List.length_map, List.length_range]
    simp [c1, show i < dp + m by omega, hi, List.getElem?_take]
  · by_cases c2 : i < dp + m
    · rw [if_pos (by omega)]
      simp only [List.getD, List.getElem?_append, l1, List.length_append, List.length_map, List.length_range]
      simp [c1, c2, show i - dp < m by omega, show sp + (i - dp) < sp + m by omega]
    · rw [if_neg (by omega)]
      simp only [List.getD, List.getElem?_append, l1, List.length_append, List.length_map, List.length_range]
      simp [c2, List.getElem?_drop, show dp + m + (i - (dp + m)) = i by omega, hi]
theorem g_acopy (C : Cx w Z own bytes ml rt nm R n0 Q Y) {i W : Nat} {ad' : String} {g : Nat → Value} {z' sp dp m : Int32} (w1 : (Jvm.Cond.methodLink own i Jvm.Stand.acN).before a0 Z = true) (w2 : (Jvm.Cond.native Jvm.Stand.acN).before a0 Z = true) (w3 : (Jvm.Cond.static Jvm.Stand.acN).before a0 Z = true) (w4 : (Jvm.Cond.initialized "java/lang/System").before a0 Z = true)
    (A : Arf Z h a ad ty z f) (B : Arf Z h b ad' ty z' g) (hty : refKind ty = false) (h1 : ¬ sp < 0) (h2 : ¬ dp < 0) (h3 : ¬ m < 0) (h4 : sp.toNatClampNeg + m.toNatClampNeg ≤ z.toNatClampNeg) (h5 : dp.toNatClampNeg + m.toNatClampNeg ≤ z'.toNatClampNeg) (ge : n0 ≤ b)
    (hd : decode bytes pc = .ok (.invokestatic i, 3)) (hp : pc + 3 = pc') (hml : Ls.size = ml) (hf : 1 ≤ R.frames) (hW : (rest.map fun v => v.category).sum ≤ W) (hl : W + 18 ≤ R.locals)
    (G : ∀ h' : Heap, Keep h h' [b] → Arf Z h' b ad' ty z' (fun i => if dp.toNatClampNeg ≤ i ∧ i < dp.toNatClampNeg + m.toNatClampNeg then f (sp.toNatClampNeg + (i - dp.toNatClampNeg)) else g i) → Go w l R n0 Y h' k n pc' Ls rest) : Go w l R n0 Y h k n pc Ls (.int m :: .int dp :: .ref b :: .int sp :: .ref a :: rest) := by
  subst hp
  intro T locs X hT hn N
  obtain ⟨kc, V⟩ := A.arv .null
  obtain ⟨kd, U⟩ := B.arv .null
  obtain ⟨T', h', L, X', e', N', K, A', s'⟩ := cpA X C.hx C.hZ C.hown w1 w2 w3 w4 hT V U (Or.inl ⟨rfl, hty⟩) h1 h2 h3 h4 h5 rfl (by simpa using h5) N ge (g := mkF w.m pc Ls (.int m :: .int dp :: .ref b :: .int sp :: .ref a :: rest)) rfl (by rw [C.hml]; exact hml) rfl (C.d hd) hf (W := W) (by simpa using hW) (by rw [show nativeFrameWords "java/lang/System" "arraycopy" 5 = 7 from by decide]; exact hl)
  have F := (Arf.of_arv (B.1.keep K) A')
  have F' : Arf Z h' b ad' ty z' (fun i => if dp.toNatClampNeg ≤ i ∧ i < dp.toNatClampNeg + m.toNatClampNeg then f (sp.toNatClampNeg + (i - dp.toNatClampNeg)) else g i) := by
    refine F.congr fun i hi => ?_
    show _ = if dp.toNatClampNeg ≤ i ∧ i < dp.toNatClampNeg + m.toNatClampNeg then f (sp.toNatClampNeg + (i - dp.toNatClampNeg)) else g i
    rw [← own_acopy_list f g z'.toNatClampNeg m.toNatClampNeg dp.toNatClampNeg sp.toNatClampNeg h5 i hi]
    congr 2
    congr 1
    apply List.map_congr_left
    intro j hj
    have hj' := List.mem_range.mp hj
    rw [own_getD _ _ _ _ (by omega), own_getD _ _ _ _ (by omega)]
  obtain ⟨s₂, o, g1, g2⟩ := G h' K F' T' L X' e' (own_grow hn K.1) N'
  exact ⟨s₂, o, s' _ g1, g2⟩
end OwnKit2
theorem n32_toInt {n : Nat} (h : n < 2147483648) : (Int32.ofNat n).toInt = n := Int32.toInt_ofNat_of_lt (by omega)
theorem n32_nat {n : Nat} (h : n < 2147483648) : (Int32.ofNat n).toNatClampNeg = n := by rw [Int32.toNatClampNeg, n32_toInt h]; rfl
theorem n32_nn {n : Nat} (h : n < 2147483648) : ¬ Int32.ofNat n < 0 := by
  rw [Int32.lt_iff_toInt_lt, n32_toInt h, show (0 : Int32).toInt = 0 from rfl]; omega
theorem n32_lt {i n : Nat} (h : i < n) (hn : n < 2147483648) : Int32.ofNat i < Int32.ofNat n := by
  rw [Int32.lt_iff_toInt_lt, n32_toInt hn, n32_toInt (by omega)]; omega
theorem n32_ge {i n : Nat} (h : n ≤ i) (hn : i < 2147483648) : ¬ Int32.ofNat i < Int32.ofNat n := by
  rw [Int32.lt_iff_toInt_lt, n32_toInt hn, n32_toInt (by omega)]; omega
theorem n32_succ (i : Nat) : Int32.ofNat i + (1 : Int32) = Int32.ofNat (i + 1) := (Int32.ofNat_add i 1).symm
theorem n32_of {z : Int32} (h : ¬ z < 0) : z = Int32.ofNat z.toNatClampNeg := by
  rw [Int32.lt_iff_toInt_lt, show (0 : Int32).toInt = 0 from rfl] at h
  have r := rng32 z
  rw [← Int32.toInt_inj, n32_toInt (by simp only [Int32.toNatClampNeg]; omega)]
  simp only [Int32.toNatClampNeg]; omega
theorem n32_lit {z : Int32} {n : Nat} (h : z.toInt = n) : z.toNatClampNeg = n := by simp only [Int32.toNatClampNeg]; omega
/-! the wide form: the tables may come to hold more strings meanwhile -/
abbrev Wk.reb (w : Wk) (vm : Vm) (kk : Nat) : Wk := (w.p, w.e, w.s.setVm vm, w.m, w.as, w.below, w.meth, w.c, kk)
def LvW (w : Wk) (R : Room) (n0 : Nat) (Q : Option Value → Heap → Prop) (Y : State → Outcome → Prop) : Prop := ∀ (vm1 : Vm) (kk1 : Nat), w.s.Since vm1 kk1 → w.kk ≤ kk1 → Lv (w.reb vm1 kk1) R n0 Q Y
def Wid (w : Wk) (R : Room) (n0 : Nat) (Q : Option Value → Heap → Prop) : State → Outcome → Prop := fun t o => ∃ v L, o = .returned v ∧ (Q v t.heap ∧ Fr n0 L ∧ w.kk ≤ t.heap.size) ∧ ReturnedEndW w.s o t L R.cells R.slots
def MetW (l : Launch) (Z : State) (y : MethodName) (bytes : ByteArray) (ml : Nat) (rt : Option FieldType) (rm : Room) (n0 : Nat) (h0 : Heap) (as' : Array Value) (Q : Option Value → Heap → Prop) : Prop :=
  n0 ≤ h0.size → ∀ ws, MetFree l y (head1 (Jvm.Cond.code y bytes ml rt :: ws) rm) (fun a U => a = as' ∧ Z.Warmed39 U.vm ∧ U.heap = h0) (fun _ _ _ _ _ => True) (fun _ U o U' => ∃ v L, o = .returned v ∧ (Q v U'.heap ∧ Fr n0 L ∧ h0.size ≤ U'.heap.size) ∧ ReturnedEndW U o U' L rm.cells rm.slots)
section OwnWide
variable {w : Wk} {l : Launch} {R : Room} {Z : State} {a0 : Array Value} {own : String} {bytes : ByteArray} {ml : Nat} {rt : Option FieldType} {nm : String} {n0 : Nat} {Q : Option Value → Heap → Prop} {Y : State → Outcome → Prop} {h : Heap} {k n pc pc' : Nat} {Ls Ls' : Array Slot} {st rest : List Value} {a : Addr}
theorem Lv.wid (w : Wk) (R : Room) (n0 : Nat) (Q : Option Value → Heap → Prop) : Lv w R n0 Q (Wid w R n0 Q) := fun T fs locs k n v hW hs N hk hc hn hQ => ⟨v, locs, rfl, ⟨hQ, N, hk⟩, ReturnedEndW.of_narrow ⟨v, rfl⟩ hW (hs.mono hc hn)⟩
theorem LvW.wid (w : Wk) (R : Room) (n0 : Nat) (Q : Option Value → Heap → Prop) : LvW w R n0 Q (Wid w R n0 Q) := fun vm1 kk1 hS hk1 T fs locs k n v hW hs N hk hc hn hQ => by
  obtain ⟨a, b, c'⟩ := hS.ended (U := T.setFrames fs) hW hk hs
  exact ⟨v, locs, rfl, ⟨hQ, N, Nat.le_trans hk1 hk⟩, ⟨v, rfl⟩, a, b, c'.mono hc hn⟩
theorem LvW.reb (L : LvW w R n0 Q Y) {vm1 : Vm} {kk1 : Nat} (hS : w.s.Since vm1 kk1) (hk : w.kk ≤ kk1) : LvW (w.reb vm1 kk1) R n0 Q Y := fun vm2 kk2 hS2 hk2 => L vm2 kk2 (hS.trans hS2 hk2) (Nat.le_trans hk hk2)
theorem Cx.reb (C : Cx w Z own bytes ml rt nm R n0 Q Y) (L : LvW w R n0 Q Y) {vm1 : Vm} {kk1 : Nat} (hS : w.s.Since vm1 kk1) (hk : w.kk ≤ kk1) : Cx (w.reb vm1 kk1) Z own bytes ml rt nm R n0 Q Y :=
  ⟨C.hx, C.2.1, C.hml, by show vm1.findClass own = _; rw [hS.1.alike.findClass]; exact C.hown, State.Warmed39.trans C.hZ hS.1, C.ret, C.locks, C.name, L vm1 kk1 hS hk⟩
theorem MetW.intro {y : MethodName} {rm : Room} {h0 : Heap} {as' : Array Value} (hp : plainFor y = true) (hef : ∀ m, entryFrame m as' ml = mkF m 0 Ls [])
    (H : ∀ (w : Wk) (Y : State → Outcome → Prop), Cx w Z y.cls bytes ml rt y.name rm n0 Q Y → LvW w rm n0 Q Y → Go w l rm n0 Y h0 0 0 0 Ls []) : MetW l Z y bytes ml rt rm n0 h0 as' Q := by
  intro hn ws
  refine MetFree.of_bodySF hp hisR ?_
  intro p e s m args below meth c s₁ Bd hml0 hP hK
  obtain ⟨rfl, hZ, hh⟩ := hP
  have X0 : Stand p l e rm s m args below meth c s₁ [] 0 0 := Stand.of_body Bd
  have e0 : s₁.heap = h0 := by rw [← hh, Bd.state]; rfl
  obtain ⟨s₂, o, g1, g2, g3, g4⟩ := H (p, e, s, m, args, below, meth, c, h0.size) _ ⟨Bd.exec, Bd.bytes, hml0, findClass_of_methodNamed Bd.named, hZ, Bd.returns, BodyLoose.notSynchronized Bd, (name_of_methodNamed Bd.named Bd.method).1, Lv.wid _ _ _ _⟩ (LvW.wid _ _ _ _) s₁ [] X0 e0 ⟨hn, Nat.le_refl _⟩ (Fr.nil n0)
  exact ⟨s₂, o, castTop (hef m) g1, g2, g3, g4⟩
theorem MetW.back {y : MethodName} {yb : ByteArray} {yl : Nat} {yr : Option FieldType} {rm : Room} {as' : Array Value} {Qc : Option Value → Heap → Prop} {W len : Nat} (M : MetW l Z y yb yl yr rm n0 h as' Qc) (hn : n0 ≤ h.size) (hZ : Z.Warmed39 w.s.vm) (wc : (Jvm.Cond.code y yb yl yr).before a0 Z = true) (wz : (Jvm.Cond.initialized y.cls).before a0 Z = true) (hf : rm.frames + 1 ≤ R.frames) (hl : W + (yl + 11) + rm.locals ≤ R.locals) :
    BackS l R w.p w.e w.below w.s w.as y len W (PreB R h rm as') (PostB n0 rm Qc) := by
  have B := backOfS (W := W) (len := len) (Q := fun v h' L => Qc v h' ∧ Fr n0 L ∧ h.size ≤ h'.size) (p := w.p) (e := w.e) (below := w.below) (args := w.as) (R := R) (M hn []) hZ wc wz hf hl
  intro m meth c A g ig mk a X hg hsize hdg hW hnm hp
  obtain ⟨v, B', X', hS, hgr, ⟨L, q, r⟩, hst⟩ := B m meth c A g ig mk a X hg hsize hdg hW hnm hp
  exact ⟨v, B', X', hS, hgr, ⟨L, ⟨q.1, q.2.1, by rw [hp.2.1]; exact q.2.2⟩, r⟩, hst⟩
theorem g_ldcS (C : Cx w Z own bytes ml rt nm R n0 Q Y) (CW : LvW w R n0 Q Y) {i m k' n' : Nat} {text : String} (w1 : (Jvm.Cond.stringLink own i text).before a0 Z = true) (wS : ∀ d ∈ Bundle.stringAtoms, d.before a0 Z = true) (hd : decode bytes pc = .ok (.ldc i, 2)) (hp : pc + 2 = pc') (hm : 4 * text.toList.length ≤ m) (hbig : m ≤ 536870912) (hk : k + 2 = k') (hn : n + (m + 4) = n') (hc : k' ≤ R.cells) (hs : n' ≤ R.slots)
    (G : ∀ (w : Wk) (h' : Heap) (a : Addr), Cx w Z own bytes ml rt nm R n0 Q Y → LvW w R n0 Q Y → Ext h h' → Go w l R n0 Y h' k' n' pc' Ls (.ref a :: st)) : Go w l R n0 Y h k n pc Ls st := by
  subst hp hk hn
  intro T locs X hT hn N
  obtain ⟨a, T', h', k1, X', e', E, hS, hk1, -, -, s'⟩ := ldcS (s := w.s) (vm0 := w.s.vm) X C.hx C.hZ C.hown w1 wS hT (k0 := 0) ((State.WarmedH.refl w.s).since 0) (Nat.zero_le _) (g := mkF w.m pc Ls st) rfl (C.d hd) hm hbig hc hs
  have hS' : w.s.Since T'.vm h'.size := ⟨hS.1, hS.2.mono hk1⟩
  obtain ⟨s₂, o, h1, h2⟩ := G (w.reb T'.vm h'.size) h' a (C.reb CW hS' (Nat.le_trans hn.2 E.1)) (CW.reb hS' (Nat.le_trans hn.2 E.1)) E T' locs X' e' ⟨Nat.le_trans hn.1 E.1, Nat.le_refl _⟩ N
  exact ⟨s₂, o, s' _ h1, h2⟩
section CallsW
variable {y y' : MethodName} {yb : ByteArray} {yl : Nat} {yr : Option FieldType} {rm : Room} {Qc : Option Value → Heap → Prop} {W i k' n' : Nat} {argsL : List Value} {cl : String}
theorem g_staticS (C : Cx w Z own bytes ml rt nm R n0 Q Y) (CW : LvW w R n0 Q Y) (w1 : (Jvm.Cond.methodLink own i y).before a0 Z = true) (w2 : (Jvm.Cond.static y).before a0 Z = true) (w3 : (Jvm.Cond.initialized y.cls).before a0 Z = true) (w4 : (Jvm.Cond.code y yb yl yr).before a0 Z = true) (hy : y.cls ≠ "java/lang/invoke/MethodHandle" ∧ y.cls ≠ "java/lang/invoke/VarHandle")
    (hd : decode bytes pc = .ok (.invokestatic i, 3)) (hp : pc + 3 = pc') (hlen : ∀ sig, parseMethodDescriptor y.desc = some sig → argsL.length = sig.parameters.length) (hst : st = argsL.reverse ++ rest) (hW : (rest.map fun v => v.category).sum ≤ W) (hml : Ls.size = ml)
    (B : n0 ≤ h.size → BackS l R w.p w.e w.below w.s w.as y 3 W (PreB R h rm argsL.toArray) (PostB n0 rm Qc)) (hk : k + rm.cells = k') (hn : n + rm.slots = n') (hc : k' ≤ R.cells) (hs : n' ≤ R.slots)
    (G : ∀ (w : Wk) (v : Option Value) (h' : Heap), Cx w Z own bytes ml rt nm R n0 Q Y → LvW w R n0 Q Y → Qc v h' → Go w l R n0 Y h' k' n' pc' Ls (v.toList ++ rest)) : Go w l R n0 Y h k n pc Ls st := by
  subst hp hk hn
  intro T locs X hT hn N
  obtain ⟨v, vm₁, ⟨TB, LB, kB, nB⟩, -, X', hS, hgr, ⟨L, hQ, l1, l2, l3⟩, s'⟩ := callSS X C.hx C.hown (mvT C.hZ w1) (mvT C.hZ w2) (mvT C.hZ w3) (mvT C.hZ w4) hy (B hn.1) (g := mkF w.m pc Ls st) rfl (by rw [C.hml]; exact hml) (argsL := argsL) (rest := rest) hlen hst (by simpa using hW) (C.d hd) (fun vm₁ h₁ => ⟨rfl, hT, hc, hs⟩)
  dsimp only [Pt.U, Pt.locs, Pt.cells, Pt.slots] at X' l1 l2 l3 s' hQ hS hgr
  subst l1 l2 l3
  have hk : w.kk ≤ TB.heap.size := Nat.le_trans hn.2 (hT ▸ hgr)
  obtain ⟨s₂, o, h1, h2⟩ := G (w.reb TB.vm TB.heap.size) v TB.heap (C.reb CW hS hk) (CW.reb hS hk) hQ.1 TB _ X' rfl ⟨Nat.le_trans hn.1 (hT ▸ hgr), Nat.le_refl _⟩ (N.app hQ.2.1)
  exact ⟨s₂, o, s'.trans h1, h2⟩
theorem g_specialS (C : Cx w Z own bytes ml rt nm R n0 Q Y) (CW : LvW w R n0 Q Y) {yl0 : Nat} {yb0 : ByteArray} (hy1 : y.name = "<init>") (w1 : (Jvm.Cond.methodLink own i y).before a0 Z = true) (w2 : (Jvm.Cond.instanceMethod y).before a0 Z = true) (w4 : (Jvm.Cond.code y yb0 yl0 none).before a0 Z = true) (hy : y.cls ≠ "java/lang/invoke/MethodHandle" ∧ y.cls ≠ "java/lang/invoke/VarHandle")
    (hd : decode bytes pc = .ok (.invokespecial i, 3)) (hp : pc + 3 = pc') (hlen : ∀ sig, parseMethodDescriptor y.desc = some sig → argsL.length = sig.parameters.length) (hst : st = argsL.reverse ++ .ref a :: rest) (hW : (rest.map fun v => v.category).sum ≤ W) (hml : Ls.size = ml)
    (B : n0 ≤ h.size → BackS l R w.p w.e w.below w.s w.as y 3 W (PreB R h rm (.ref a :: argsL).toArray) (PostB n0 rm Qc)) (hk : k + rm.cells = k') (hn : n + rm.slots = n') (hc : k' ≤ R.cells) (hs : n' ≤ R.slots)
    (G : ∀ (w : Wk) (v : Option Value) (h' : Heap), Cx w Z own bytes ml rt nm R n0 Q Y → LvW w R n0 Q Y → Qc v h' → Go w l R n0 Y h' k' n' pc' Ls (v.toList ++ rest)) : Go w l R n0 Y h k n pc Ls st := by
  subst hp hk hn
  intro T locs X hT hn N
  obtain ⟨v, vm₁, ⟨TB, LB, kB, nB⟩, -, X', hS, hgr, ⟨L, hQ, l1, l2, l3⟩, s'⟩ := X.specialBackS C.hx hy1 C.hown (mvT C.hZ w1) (mvT C.hZ w2) (mvT C.hZ w4) hy (B hn.1) (g := mkF w.m pc Ls st) rfl (by rw [C.hml]; exact hml) (Steps.refl _) (a := a) (argsL := argsL) (rest := rest) hlen hst (by simpa using hW) (C.d hd) (fun vm₁ h₁ => ⟨rfl, hT, hc, hs⟩)
  dsimp only [Pt.U, Pt.locs, Pt.cells, Pt.slots] at X' l1 l2 l3 s' hQ hS hgr
  subst l1 l2 l3
  have hk : w.kk ≤ TB.heap.size := Nat.le_trans hn.2 (hT ▸ hgr)
  obtain ⟨s₂, o, h1, h2⟩ := G (w.reb TB.vm TB.heap.size) v TB.heap (C.reb CW hS hk) (CW.reb hS hk) hQ.1 TB _ X' rfl ⟨Nat.le_trans hn.1 (hT ▸ hgr), Nat.le_refl _⟩ (N.app hQ.2.1)
  exact ⟨s₂, o, s'.trans h1, h2⟩
theorem g_virtualS (C : Cx w Z own bytes ml rt nm R n0 Q Y) (CW : LvW w R n0 Q Y) (w1 : (Jvm.Cond.methodLink own i y).before a0 Z = true) (w2 : (Jvm.Cond.declares y).before a0 Z = true) (nf : NotFace w.s y) (w3 : (Jvm.Cond.selects cl y y').before a0 Z = true) (w4 : (Jvm.Cond.instanceMethod y').before a0 Z = true) (hy : y.cls ≠ "java/lang/invoke/MethodHandle" ∧ y.cls ≠ "java/lang/invoke/VarHandle") (E : Exa Z h a cl)
    (hd : decode bytes pc = .ok (.invokevirtual i, 3)) (hp : pc + 3 = pc') (hlen : ∀ sig, parseMethodDescriptor y.desc = some sig → argsL.length = sig.parameters.length) (hst : st = argsL.reverse ++ .ref a :: rest) (hW : (rest.map fun v => v.category).sum ≤ W) (hml : Ls.size = ml)
    (B : n0 ≤ h.size → BackS l R w.p w.e w.below w.s w.as y' 3 W (PreB R h rm (.ref a :: argsL).toArray) (PostB n0 rm Qc)) (hk : k + rm.cells = k') (hn : n + rm.slots = n') (hc : k' ≤ R.cells) (hs : n' ≤ R.slots)
    (G : ∀ (w : Wk) (v : Option Value) (h' : Heap), Cx w Z own bytes ml rt nm R n0 Q Y → LvW w R n0 Q Y → Qc v h' → Go w l R n0 Y h' k' n' pc' Ls (v.toList ++ rest)) : Go w l R n0 Y h k n pc Ls st := by
  subst hp hk hn
  intro T locs X hT hn N
  obtain ⟨cq, kq, qa, qb, qc⟩ := isOf C.hZ hT E
  obtain ⟨v, vm₁, ⟨TB, LB, kB, nB⟩, -, X', hS, hgr, ⟨L, hQ, l1, l2, l3⟩, s'⟩ := X.virtualBackS C.hx C.hown (mvT C.hZ w1) (mvT C.hZ w2) nf (mvT C.hZ w3) (mvT C.hZ w4) hy (B hn.1) qa qc (g := mkF w.m pc Ls st) rfl (by rw [C.hml]; exact hml) (Steps.refl _) (argsL := argsL) (rest := rest) hlen hst (by simpa using hW) (C.d hd) (fun vm₁ h₁ => ⟨rfl, hT, hc, hs⟩)
  dsimp only [Pt.U, Pt.locs, Pt.cells, Pt.slots] at X' l1 l2 l3 s' hQ hS hgr
  subst l1 l2 l3
  have hk : w.kk ≤ TB.heap.size := Nat.le_trans hn.2 (hT ▸ hgr)
  obtain ⟨s₂, o, h1, h2⟩ := G (w.reb TB.vm TB.heap.size) v TB.heap (C.reb CW hS hk) (CW.reb hS hk) hQ.1 TB _ X' rfl ⟨Nat.le_trans hn.1 (hT ▸ hgr), Nat.le_refl _⟩ (N.app hQ.2.1)
  exact ⟨s₂, o, s'.trans h1, h2⟩
end CallsW
end OwnWide
/-! a constant whose text is read, in a walk that has loaded none before it -/
def Arw (Z : State) (h : Heap) (a : Addr) (ty : FieldType) (z : Int32) (f : Nat → Value) : Prop := ∃ c : Cell, Arr Z h a c ty ∧ c.slots.size = z.toNatClampNeg ∧ ¬ z < 0 ∧ ∀ i, i < c.slots.size → c.slots[i]? = some (f i) ∧ fits ty (f i) = true
def MetWI (l : Launch) (Z : State) (y : MethodName) (bytes : ByteArray) (ml : Nat) (rt : Option FieldType) (rm : Room) (n0 : Nat) (h0 : Heap) (as' : Array Value) (Q : Option Value → Heap → Prop) : Prop :=
  n0 ≤ h0.size → ∀ ws, MetFree l y (head1 (Jvm.Cond.code y bytes ml rt :: ws) rm) (fun a U => a = as' ∧ Z.Warmed39 U.vm ∧ U.heap = h0 ∧ U.vm.interned = Z.vm.interned) (fun _ _ _ _ _ => True) (fun _ U o U' => ∃ v L, o = .returned v ∧ (Q v U'.heap ∧ Fr n0 L ∧ h0.size ≤ U'.heap.size) ∧ ReturnedEndW U o U' L rm.cells rm.slots)
section OwnHeld
variable {w : Wk} {l : Launch} {R : Room} {Z : State} {a0 : Array Value} {own : String} {bytes : ByteArray} {ml : Nat} {rt : Option FieldType} {nm : String} {n0 : Nat} {Q : Option Value → Heap → Prop} {Y : State → Outcome → Prop} {h h' : Heap} {k n pc pc' : Nat} {Ls Ls' : Array Slot} {st rest : List Value} {a : Addr} {ty : FieldType} {z : Int32} {f : Nat → Value}
theorem Arw.of_arv {kc : ClassId} {vs : List Value} {d : Value} (V : Arv Z h a kc ty z vs d) : Arw Z h a ty z (fun i => vs.getD i d) := by
  obtain ⟨c, A, -, S, N, H, G⟩ := V
  exact ⟨c, A, S, N, fun i hi => ⟨H i hi, G i hi⟩⟩
theorem Arw.of_arf {ad : String} (F : Arf Z h a ad ty z f) : Arw Z h a ty z f := F.2
theorem Arw.lt (F : Arw Z h a ty z f) : a < h.size := by obtain ⟨c, A, -⟩ := F; exact A.lt
theorem Arw.ext (F : Arw Z h a ty z f) (E : Ext h h') : Arw Z h' a ty z f := by
  obtain ⟨c, A, r⟩ := F; exact ⟨c, A.ext E, r⟩
theorem Arw.keep {ws : List Addr} (F : Arw Z h a ty z f) (K : Keep h h' ws) (q : a ∉ ws) : Arw Z h' a ty z f := by
  obtain ⟨c, A, r⟩ := F; exact ⟨c, ⟨K.2.1 _ _ A.1 q, A.2⟩, r⟩
theorem g_baloadW (C : Cx w Z own bytes ml rt nm R n0 Q Y) {j : Int32} {v : Value} (F : Arw Z h a .byte z f) (hj : ¬ j < 0) (hz : j < z) (hv : f j.toNatClampNeg = v) (hd : decode bytes pc = .ok (.baload, 1)) (hp : pc + 1 = pc')
    (G : Go w l R n0 Y h k n pc' Ls (v :: rest)) : Go w l R n0 Y h k n pc Ls (.int j :: .ref a :: rest) := by
  subst hp
  obtain ⟨c, A, S, -, r⟩ := F
  exact Go.stand (fun T t locs X hT K => X.baloadBytes C.hx (j := j) (v := v) (by rw [hT]; exact A.1) (State.isArrayOf_alike C.hZ.alike A.2.1) A.2.2 (inb_of S ⟨hj, hz⟩) (by rw [(r _ (by rw [S]; exact nat_lt hj hz)).1, hv]) (g := mkF w.m pc Ls (.int j :: .ref a :: rest)) rfl rfl (C.d hd) _ K) G
theorem g_lenW (C : Cx w Z own bytes ml rt nm R n0 Q Y) (F : Arw Z h a ty z f) (hd : decode bytes pc = .ok (.arraylength, 1)) (hp : pc + 1 = pc') (G : Go w l R n0 Y h k n pc' Ls (.int z :: rest)) : Go w l R n0 Y h k n pc Ls (.ref a :: rest) := by
  subst hp
  obtain ⟨c, A, S, M, r⟩ := F
  refine Go.stand (fun T t locs X hT K => X.arraylength C.hx (by rw [hT]; exact A.1) (State.isArrayOf_alike C.hZ.alike A.2.1) (g := mkF w.m pc Ls (.ref a :: rest)) rfl rfl (C.d hd) _ ?_) G
  rw [len_of S M]; exact K
theorem MetWI.intro {y : MethodName} {rm : Room} {h0 : Heap} {as' : Array Value} (hp : plainFor y = true) (hef : ∀ m, entryFrame m as' ml = mkF m 0 Ls [])
    (H : ∀ (w : Wk) (Y : State → Outcome → Prop), Cx w Z y.cls bytes ml rt y.name rm n0 Q Y → LvW w rm n0 Q Y → w.s.heap = h0 → w.s.vm.interned = Z.vm.interned → Go w l rm n0 Y h0 0 0 0 Ls []) : MetWI l Z y bytes ml rt rm n0 h0 as' Q := by
  intro hn ws
  refine MetFree.of_bodySF hp hisR ?_
  intro p e s m args below meth c s₁ Bd hml0 hP hK
  obtain ⟨rfl, hZ, hh, hI⟩ := hP
  have X0 : Stand p l e rm s m args below meth c s₁ [] 0 0 := Stand.of_body Bd
  have e0 : s₁.heap = h0 := by rw [← hh, Bd.state]; rfl
  obtain ⟨s₂, o, g1, g2, g3, g4⟩ := H (p, e, s, m, args, below, meth, c, h0.size) _ ⟨Bd.exec, Bd.bytes, hml0, findClass_of_methodNamed Bd.named, hZ, Bd.returns, BodyLoose.notSynchronized Bd, (name_of_methodNamed Bd.named Bd.method).1, Lv.wid _ _ _ _⟩ (LvW.wid _ _ _ _) hh hI s₁ [] X0 e0 ⟨hn, Nat.le_refl _⟩ (Fr.nil n0)
  exact ⟨s₂, o, castTop (hef m) g1, g2, g3, g4⟩
theorem MetWI.back {y : MethodName} {yb : ByteArray} {yl : Nat} {yr : Option FieldType} {rm : Room} {as' : Array Value} {Qc : Option Value → Heap → Prop} {W len : Nat} (M : MetWI l Z y yb yl yr rm n0 h as' Qc) (hn : n0 ≤ h.size) (hZ : Z.Warmed39 w.s.vm) (hI : w.s.vm.interned = Z.vm.interned) (wc : (Jvm.Cond.code y yb yl yr).before a0 Z = true) (wz : (Jvm.Cond.initialized y.cls).before a0 Z = true) (hf : rm.frames + 1 ≤ R.frames) (hl : W + (yl + 11) + rm.locals ≤ R.locals) :
    BackS l R w.p w.e w.below w.s w.as y len W (PreB R h rm as') (PostB n0 rm Qc) :=
  BackS.of_freeW (bytes := yb) (maxL := yl) (ret := yr) (E := fun _ _ o t L k n => k = rm.cells ∧ n = rm.slots ∧ ∃ v, o = .returned v ∧ Qc v t.heap ∧ Fr n0 L ∧ h.size ≤ t.heap.size) (M hn []) hf hl
    (fun m meth c A a V q => have hU : Z.Warmed39 A.U.vm := wtrans hZ V.warmed
      ⟨by show (Cond.and _ .tt).before a A.U = true; rw [Cond.before_and, mv hU wc]; rfl, mv hU wc, mv hU wz, q.2.2.1, q.2.2.2⟩)
    (fun m meth c A a g mk V q => ⟨q.1, wtrans hZ V.warmed, q.2.1, V.warmed.interned_eq.trans hI⟩) (fun _ _ _ _ _ _ _ _ _ => trivial)
    (fun _ _ _ _ ⟨v, L, u1, u2, u3⟩ => ⟨L, _, _, u3, rfl, rfl, v, u1, u2.1, u2.2.1, u2.2.2⟩)
    (fun m meth c A a g mk v t L k n V q _ _ ⟨e1, e2, v', e3, e4, e5, e6⟩ => by cases e3; subst e1 e2; exact ⟨L, ⟨e4, e5, by rw [q.2.1]; exact e6⟩, rfl, rfl, rfl⟩)
theorem Arw.other {b : Addr} {sl : Nat} {v : Value} (F : Arw Z h b ty z f) (W : Wr h h' a sl v) (q : b ≠ a) : Arw Z h' b ty z f := by
  obtain ⟨c, A, r⟩ := F; exact ⟨c, A.other W q, r⟩
theorem Arw.congr {g : Nat → Value} (F : Arw Z h a ty z f) (q : ∀ i, i < z.toNatClampNeg → f i = g i) : Arw Z h a ty z g := by
  obtain ⟨c, A, S, N, r⟩ := F; exact ⟨c, A, S, N, fun i hi => by rw [← q i (S ▸ hi)]; exact r i hi⟩
theorem Lv.up {n1 : Nat} (L : Lv w R n0 Q Y) (h01 : n0 ≤ n1) : Lv w R n1 Q Y := fun T fs locs k n v hW hs N hk hc hn hQ => L T fs locs k n v hW hs (fun y hy => Nat.le_trans h01 (N y hy)) hk hc hn hQ
theorem Cx.up {n1 : Nat} (C : Cx w Z own bytes ml rt nm R n0 Q Y) (h01 : n0 ≤ n1) : Cx w Z own bytes ml rt nm R n1 Q Y := ⟨C.1, C.2.1, C.2.2.1, C.2.2.2.1, C.2.2.2.2.1, C.2.2.2.2.2.1, C.2.2.2.2.2.2.1, C.2.2.2.2.2.2.2.1, C.lv.up h01⟩
theorem MetWI.intro1 {y : MethodName} {rm : Room} {h0 : Heap} {as' : Array Value} (hp : plainFor y = true) (hef : ∀ m, entryFrame m as' ml = mkF m 0 Ls [])
    (H : ∀ (w : Wk) (Y : State → Outcome → Prop), Cx w Z y.cls bytes ml rt y.name rm n0 Q Y → LvW w rm n0 Q Y → w.s.heap = h0 → w.s.vm.interned = Z.vm.interned → n0 ≤ h0.size → Go w l rm h0.size Y h0 0 0 0 Ls []) : MetWI l Z y bytes ml rt rm n0 h0 as' Q := by
  intro hn ws
  refine MetFree.of_bodySF hp hisR ?_
  intro p e s m args below meth c s₁ Bd hml0 hP hK
  obtain ⟨rfl, hZ, hh, hI⟩ := hP
  have X0 : Stand p l e rm s m args below meth c s₁ [] 0 0 := Stand.of_body Bd
  have e0 : s₁.heap = h0 := by rw [← hh, Bd.state]; rfl
  obtain ⟨s₂, o, g1, g2, g3, g4⟩ := H (p, e, s, m, args, below, meth, c, h0.size) _ ⟨Bd.exec, Bd.bytes, hml0, findClass_of_methodNamed Bd.named, hZ, Bd.returns, BodyLoose.notSynchronized Bd, (name_of_methodNamed Bd.named Bd.method).1, Lv.wid _ _ _ _⟩ (LvW.wid _ _ _ _) hh hI hn s₁ [] X0 e0 ⟨Nat.le_refl _, Nat.le_refl _⟩ (Fr.nil _)
  exact ⟨s₂, o, castTop (hef m) g1, g2, g3, g4⟩
theorem g_ldcV (C : Cx w Z own bytes ml rt nm R n0 Q Y) (CW : LvW w R n0 Q Y) {n1 i m k' n' : Nat} {text : String} {vs : List Value} (hN : w.s.heap.size = n1) (h01 : n0 ≤ n1) (hk0 : Ext Z.heap w.s.heap) (hI : w.s.vm.interned = Z.vm.interned) (w1 : (Jvm.Cond.stringLink own i text).before a0 Z = true) (wS : ∀ d ∈ Bundle.stringAtoms, d.before a0 Z = true) (hh : Jvm.Lit.constHeld Z own i) (hcw : Jvm.Lit.compactW.before a0 Z = true)
    (ht : (∀ c ∈ text.toList, c.toNat < 256) ∧ text.toList.map (fun c => Value.int (Jvm.Lit.byteI c.toNat.toUInt16)) = vs) (hz : ¬ z < 0) (hl : z.toNatClampNeg = vs.length) (hd : decode bytes pc = .ok (.ldc i, 2)) (hp : pc + 2 = pc') (hm : 4 * text.toList.length ≤ m) (hbig : m ≤ 536870912) (hk : k + 2 = k') (hn : n + (m + 4) = n') (hc : k' ≤ R.cells) (hs : n' ≤ R.slots)
    (G : ∀ (w : Wk) (h' : Heap) (a b : Addr) (kb : ClassId), Cx w Z own bytes ml rt nm R n0 Q Y → LvW w R n0 Q Y → Ext h h' → Exa Z h' a "java/lang/String" → Fld Z h' a "java/lang/String" "coder" "B" (.int 0) → Fld Z h' a "java/lang/String" "value" "[B" (.ref b) → Arv Z h' b kb .byte z vs (.int 0) → Lit w.s own i a → Go w l R n0 Y h' k' n' pc' Ls (.ref a :: st)) : Go w l R n1 Y h k n pc Ls st := by
  subst hp hk hn hN
  intro T locs X hT hn N
  obtain ⟨a, T', h', k1, b, kc, X', e', E, hS, hk1, -, -, q1, q2, q3, q4, -, -, -, q5, s'⟩ := ldcSVL (s := w.s) (vm0 := w.s.vm) X C.hx C.hZ C.hown w1 wS hT (k0 := 0) ((State.WarmedH.refl w.s).since 0) (Nat.zero_le _) N hk0.2 (Ts := []) ⟨#[], by rw [hI]; simp, fun q hq => by simp at hq⟩ (by simp) hh hcw ht hz hl (g := mkF w.m pc Ls st) rfl (C.d hd) hm hbig hc hs
  have hS' : w.s.Since T'.vm h'.size := ⟨hS.1, hS.2.mono hk1⟩
  obtain ⟨s₂, o, h1, h2⟩ := G (w.reb T'.vm h'.size) h' a b kc (C.reb CW hS' (Nat.le_trans hn.2 E.1)) (CW.reb hS' (Nat.le_trans hn.2 E.1)) E q1 q2 q3 q4 q5 T' locs X' e' ⟨Nat.le_trans h01 (Nat.le_trans hn.1 E.1), Nat.le_refl _⟩ (fun y hy => Nat.le_trans h01 (N y hy))
  exact ⟨s₂, o, s' _ h1, h2⟩
theorem g_ldcAgain (C : Cx w Z own bytes ml rt nm R n0 Q Y) {i : Nat} {text : String} (w1 : (Jvm.Cond.stringLink own i text).before a0 Z = true) (L : Lit w.s own i a) (hd : decode bytes pc = .ok (.ldc i, 2)) (hp : pc + 2 = pc') (G : Go w l R n0 Y h k n pc' Ls (.ref a :: st)) : Go w l R n0 Y h k n pc Ls st := by
  subst hp
  exact Go.stand (fun T t locs X hT K => ldcAgain (s := w.s) (vm0 := w.s.vm) X C.hx C.hZ C.hown w1 L (g := mkF w.m pc Ls st) rfl (C.d hd) t K) G
end OwnHeld

theorem own_strAtoms : ∀ d ∈ Bundle.stringAtoms, d ∈ tables_1 := by decide +kernel
theorem d1_0 : decode method_4_code 0 = .ok (.iload_n 0, 1) := by decide +kernel
theorem d1_1 : decode method_4_code 1 = .ok (.ldc 27, 2) := by decide +kernel
theorem d1_3 : decode method_4_code 3 = .ok (.iand, 1) := by decide +kernel
theorem d1_4 : decode method_4_code 4 = .ok (.istore_n 3, 1) := by decide +kernel
theorem d1_5 : decode method_4_code 5 = .ok (.iload_n 1, 1) := by decide +kernel
theorem d1_6 : decode method_4_code 6 = .ok (.iload_n 2, 1) := by decide +kernel
theorem d1_7 : decode method_4_code 7 = .ok (.iushr, 1) := by decide +kernel
theorem d1_8 : decode method_4_code 8 = .ok (.iconst 1, 1) := by decide +kernel
theorem d1_9 : decode method_4_code 9 = .ok (.iand, 1) := by decide +kernel
theorem d1_10 : decode method_4_code 10 = .ok (.ifCond .eq 12, 3) := by decide +kernel
theorem d1_13 : decode method_4_code 13 = .ok (.bipush 48, 2) := by decide +kernel
theorem d1_15 : decode method_4_code 15 = .ok (.iload_n 3, 1) := by decide +kernel
theorem d1_16 : decode method_4_code 16 = .ok (.bipush 10, 2) := by decide +kernel
theorem d1_18 : decode method_4_code 18 = .ok (.irem, 1) := by decide +kernel
theorem d1_19 : decode method_4_code 19 = .ok (.iadd, 1) := by decide +kernel
theorem d1_20 : decode method_4_code 20 = .ok (.i2c, 1) := by decide +kernel
theorem d1_21 : decode method_4_code 21 = .ok (.ireturn, 1) := by decide +kernel
theorem d1_22 : decode method_4_code 22 = .ok (.iload_n 3, 1) := by decide +kernel
theorem d1_23 : decode method_4_code 23 = .ok (.i2c, 1) := by decide +kernel
theorem d1_24 : decode method_4_code 24 = .ok (.ireturn, 1) := by decide +kernel
theorem d2_0 : decode method_5_code 0 = .ok (.iload_n 0, 1) := by decide +kernel
theorem d2_1 : decode method_5_code 1 = .ok (.ifCond .ne 14, 3) := by decide +kernel
theorem d2_4 : decode method_5_code 4 = .ok (.new 28, 3) := by decide +kernel
theorem d2_7 : decode method_5_code 7 = .ok (.dup, 1) := by decide +kernel
theorem d2_8 : decode method_5_code 8 = .ok (.iconst 0, 1) := by decide +kernel
theorem d2_9 : decode method_5_code 9 = .ok (.newarray .char, 2) := by decide +kernel
theorem d2_11 : decode method_5_code 11 = .ok (.invokespecial 30, 3) := by decide +kernel
theorem d2_14 : decode method_5_code 14 = .ok (.areturn, 1) := by decide +kernel
theorem d2_15 : decode method_5_code 15 = .ok (.iload_n 0, 1) := by decide +kernel
theorem d2_16 : decode method_5_code 16 = .ok (.iconst 1, 1) := by decide +kernel
theorem d2_17 : decode method_5_code 17 = .ok (.if_icmp .ne 18, 3) := by decide +kernel
theorem d2_20 : decode method_5_code 20 = .ok (.new 28, 3) := by decide +kernel
theorem d2_23 : decode method_5_code 23 = .ok (.dup, 1) := by decide +kernel
theorem d2_24 : decode method_5_code 24 = .ok (.iconst 1, 1) := by decide +kernel
theorem d2_25 : decode method_5_code 25 = .ok (.newarray .char, 2) := by decide +kernel
theorem d2_27 : decode method_5_code 27 = .ok (.dup, 1) := by decide +kernel
theorem d2_28 : decode method_5_code 28 = .ok (.iconst 0, 1) := by decide +kernel
theorem d2_29 : decode method_5_code 29 = .ok (.iload_n 1, 1) := by decide +kernel
theorem d2_30 : decode method_5_code 30 = .ok (.castore, 1) := by decide +kernel
theorem d2_31 : decode method_5_code 31 = .ok (.invokespecial 30, 3) := by decide +kernel
theorem d2_34 : decode method_5_code 34 = .ok (.areturn, 1) := by decide +kernel
theorem d2_35 : decode method_5_code 35 = .ok (.iload_n 0, 1) := by decide +kernel
theorem d2_36 : decode method_5_code 36 = .ok (.iconst 2, 1) := by decide +kernel
theorem d2_37 : decode method_5_code 37 = .ok (.if_icmp .ne 22, 3) := by decide +kernel
theorem d2_40 : decode method_5_code 40 = .ok (.new 28, 3) := by decide +kernel
theorem d2_43 : decode method_5_code 43 = .ok (.dup, 1) := by decide +kernel
theorem d2_44 : decode method_5_code 44 = .ok (.iconst 2, 1) := by decide +kernel
theorem d2_45 : decode method_5_code 45 = .ok (.newarray .char, 2) := by decide +kernel
theorem d2_47 : decode method_5_code 47 = .ok (.dup, 1) := by decide +kernel
theorem d2_48 : decode method_5_code 48 = .ok (.iconst 0, 1) := by decide +kernel
theorem d2_49 : decode method_5_code 49 = .ok (.iload_n 1, 1) := by decide +kernel
theorem d2_50 : decode method_5_code 50 = .ok (.castore, 1) := by decide +kernel
theorem d2_51 : decode method_5_code 51 = .ok (.dup, 1) := by decide +kernel
theorem d2_52 : decode method_5_code 52 = .ok (.iconst 1, 1) := by decide +kernel
theorem d2_53 : decode method_5_code 53 = .ok (.iload_n 2, 1) := by decide +kernel
theorem d2_54 : decode method_5_code 54 = .ok (.castore, 1) := by decide +kernel
theorem d2_55 : decode method_5_code 55 = .ok (.invokespecial 30, 3) := by decide +kernel
theorem d2_58 : decode method_5_code 58 = .ok (.areturn, 1) := by decide +kernel
theorem d2_59 : decode method_5_code 59 = .ok (.iload_n 0, 1) := by decide +kernel
theorem d2_60 : decode method_5_code 60 = .ok (.iconst 3, 1) := by decide +kernel
theorem d2_61 : decode method_5_code 61 = .ok (.if_icmp .ne 26, 3) := by decide +kernel
theorem d2_64 : decode method_5_code 64 = .ok (.new 28, 3) := by decide +kernel
theorem d2_67 : decode method_5_code 67 = .ok (.dup, 1) := by decide +kernel
theorem d2_68 : decode method_5_code 68 = .ok (.iconst 3, 1) := by decide +kernel
theorem d2_69 : decode method_5_code 69 = .ok (.newarray .char, 2) := by decide +kernel
theorem d2_71 : decode method_5_code 71 = .ok (.dup, 1) := by decide +kernel
theorem d2_72 : decode method_5_code 72 = .ok (.iconst 0, 1) := by decide +kernel
theorem d2_73 : decode method_5_code 73 = .ok (.iload_n 1, 1) := by decide +kernel
theorem d2_74 : decode method_5_code 74 = .ok (.castore, 1) := by decide +kernel
theorem d2_75 : decode method_5_code 75 = .ok (.dup, 1) := by decide +kernel
theorem d2_76 : decode method_5_code 76 = .ok (.iconst 1, 1) := by decide +kernel
theorem d2_77 : decode method_5_code 77 = .ok (.iload_n 2, 1) := by decide +kernel
theorem d2_78 : decode method_5_code 78 = .ok (.castore, 1) := by decide +kernel
theorem d2_79 : decode method_5_code 79 = .ok (.dup, 1) := by decide +kernel
theorem d2_80 : decode method_5_code 80 = .ok (.iconst 2, 1) := by decide +kernel
theorem d2_81 : decode method_5_code 81 = .ok (.iload_n 3, 1) := by decide +kernel
theorem d2_82 : decode method_5_code 82 = .ok (.castore, 1) := by decide +kernel
theorem d2_83 : decode method_5_code 83 = .ok (.invokespecial 30, 3) := by decide +kernel
theorem d2_86 : decode method_5_code 86 = .ok (.areturn, 1) := by decide +kernel
theorem d2_87 : decode method_5_code 87 = .ok (.iload_n 0, 1) := by decide +kernel
theorem d2_88 : decode method_5_code 88 = .ok (.iconst 4, 1) := by decide +kernel
theorem d2_89 : decode method_5_code 89 = .ok (.if_icmp .ne 31, 3) := by decide +kernel
theorem d2_92 : decode method_5_code 92 = .ok (.new 28, 3) := by decide +kernel
theorem d2_95 : decode method_5_code 95 = .ok (.dup, 1) := by decide +kernel
theorem d2_96 : decode method_5_code 96 = .ok (.iconst 4, 1) := by decide +kernel
theorem d2_97 : decode method_5_code 97 = .ok (.newarray .char, 2) := by decide +kernel
theorem d2_99 : decode method_5_code 99 = .ok (.dup, 1) := by decide +kernel
theorem d2_100 : decode method_5_code 100 = .ok (.iconst 0, 1) := by decide +kernel
theorem d2_101 : decode method_5_code 101 = .ok (.iload_n 1, 1) := by decide +kernel
theorem d2_102 : decode method_5_code 102 = .ok (.castore, 1) := by decide +kernel
theorem d2_103 : decode method_5_code 103 = .ok (.dup, 1) := by decide +kernel
theorem d2_104 : decode method_5_code 104 = .ok (.iconst 1, 1) := by decide +kernel
theorem d2_105 : decode method_5_code 105 = .ok (.iload_n 2, 1) := by decide +kernel
theorem d2_106 : decode method_5_code 106 = .ok (.castore, 1) := by decide +kernel
theorem d2_107 : decode method_5_code 107 = .ok (.dup, 1) := by decide +kernel
theorem d2_108 : decode method_5_code 108 = .ok (.iconst 2, 1) := by decide +kernel
theorem d2_109 : decode method_5_code 109 = .ok (.iload_n 3, 1) := by decide +kernel
theorem d2_110 : decode method_5_code 110 = .ok (.castore, 1) := by decide +kernel
theorem d2_111 : decode method_5_code 111 = .ok (.dup, 1) := by decide +kernel
theorem d2_112 : decode method_5_code 112 = .ok (.iconst 3, 1) := by decide +kernel
theorem d2_113 : decode method_5_code 113 = .ok (.iload 4, 2) := by decide +kernel
theorem d2_115 : decode method_5_code 115 = .ok (.castore, 1) := by decide +kernel
theorem d2_116 : decode method_5_code 116 = .ok (.invokespecial 30, 3) := by decide +kernel
theorem d2_119 : decode method_5_code 119 = .ok (.areturn, 1) := by decide +kernel
theorem d2_120 : decode method_5_code 120 = .ok (.iload_n 0, 1) := by decide +kernel
theorem d2_121 : decode method_5_code 121 = .ok (.iconst 5, 1) := by decide +kernel
theorem d2_122 : decode method_5_code 122 = .ok (.if_icmp .ne 36, 3) := by decide +kernel
theorem d2_125 : decode method_5_code 125 = .ok (.new 28, 3) := by decide +kernel
theorem d2_128 : decode method_5_code 128 = .ok (.dup, 1) := by decide +kernel
theorem d2_129 : decode method_5_code 129 = .ok (.iconst 5, 1) := by decide +kernel
theorem d2_130 : decode method_5_code 130 = .ok (.newarray .char, 2) := by decide +kernel
theorem d2_132 : decode method_5_code 132 = .ok (.dup, 1) := by decide +kernel
theorem d2_133 : decode method_5_code 133 = .ok (.iconst 0, 1) := by decide +kernel
theorem d2_134 : decode method_5_code 134 = .ok (.iload_n 1, 1) := by decide +kernel
theorem d2_135 : decode method_5_code 135 = .ok (.castore, 1) := by decide +kernel
theorem d2_136 : decode method_5_code 136 = .ok (.dup, 1) := by decide +kernel
theorem d2_137 : decode method_5_code 137 = .ok (.iconst 1, 1) := by decide +kernel
theorem d2_138 : decode method_5_code 138 = .ok (.iload_n 2, 1) := by decide +kernel
theorem d2_139 : decode method_5_code 139 = .ok (.castore, 1) := by decide +kernel
theorem d2_140 : decode method_5_code 140 = .ok (.dup, 1) := by decide +kernel
theorem d2_141 : decode method_5_code 141 = .ok (.iconst 2, 1) := by decide +kernel
theorem d2_142 : decode method_5_code 142 = .ok (.iload_n 3, 1) := by decide +kernel
theorem d2_143 : decode method_5_code 143 = .ok (.castore, 1) := by decide +kernel
theorem d2_144 : decode method_5_code 144 = .ok (.dup, 1) := by decide +kernel
theorem d2_145 : decode method_5_code 145 = .ok (.iconst 3, 1) := by decide +kernel
theorem d2_146 : decode method_5_code 146 = .ok (.iload 4, 2) := by decide +kernel
theorem d2_148 : decode method_5_code 148 = .ok (.castore, 1) := by decide +kernel
theorem d2_149 : decode method_5_code 149 = .ok (.dup, 1) := by decide +kernel
theorem d2_150 : decode method_5_code 150 = .ok (.iconst 4, 1) := by decide +kernel
theorem d2_151 : decode method_5_code 151 = .ok (.iload 5, 2) := by decide +kernel
theorem d2_153 : decode method_5_code 153 = .ok (.castore, 1) := by decide +kernel
theorem d2_154 : decode method_5_code 154 = .ok (.invokespecial 30, 3) := by decide +kernel
theorem d2_157 : decode method_5_code 157 = .ok (.areturn, 1) := by decide +kernel
theorem d2_158 : decode method_5_code 158 = .ok (.new 28, 3) := by decide +kernel
theorem d2_161 : decode method_5_code 161 = .ok (.dup, 1) := by decide +kernel
theorem d2_162 : decode method_5_code 162 = .ok (.bipush 6, 2) := by decide +kernel
theorem d2_164 : decode method_5_code 164 = .ok (.newarray .char, 2) := by decide +kernel
theorem d2_166 : decode method_5_code 166 = .ok (.dup, 1) := by decide +kernel
theorem d2_167 : decode method_5_code 167 = .ok (.iconst 0, 1) := by decide +kernel
theorem d2_168 : decode method_5_code 168 = .ok (.iload_n 1, 1) := by decide +kernel
theorem d2_169 : decode method_5_code 169 = .ok (.castore, 1) := by decide +kernel
theorem d2_170 : decode method_5_code 170 = .ok (.dup, 1) := by decide +kernel
theorem d2_171 : decode method_5_code 171 = .ok (.iconst 1, 1) := by decide +kernel
theorem d2_172 : decode method_5_code 172 = .ok (.iload_n 2, 1) := by decide +kernel
theorem d2_173 : decode method_5_code 173 = .ok (.castore, 1) := by decide +kernel
theorem d2_174 : decode method_5_code 174 = .ok (.dup, 1) := by decide +kernel
theorem d2_175 : decode method_5_code 175 = .ok (.iconst 2, 1) := by decide +kernel
theorem d2_176 : decode method_5_code 176 = .ok (.iload_n 3, 1) := by decide +kernel
theorem d2_177 : decode method_5_code 177 = .ok (.castore, 1) := by decide +kernel
theorem d2_178 : decode method_5_code 178 = .ok (.dup, 1) := by decide +kernel
theorem d2_179 : decode method_5_code 179 = .ok (.iconst 3, 1) := by decide +kernel
theorem d2_180 : decode method_5_code 180 = .ok (.iload 4, 2) := by decide +kernel
theorem d2_182 : decode method_5_code 182 = .ok (.castore, 1) := by decide +kernel
theorem d2_183 : decode method_5_code 183 = .ok (.dup, 1) := by decide +kernel
theorem d2_184 : decode method_5_code 184 = .ok (.iconst 4, 1) := by decide +kernel
theorem d2_185 : decode method_5_code 185 = .ok (.iload 5, 2) := by decide +kernel
theorem d2_187 : decode method_5_code 187 = .ok (.castore, 1) := by decide +kernel
theorem d2_188 : decode method_5_code 188 = .ok (.dup, 1) := by decide +kernel
theorem d2_189 : decode method_5_code 189 = .ok (.iconst 5, 1) := by decide +kernel
theorem d2_190 : decode method_5_code 190 = .ok (.iload 6, 2) := by decide +kernel
theorem d2_192 : decode method_5_code 192 = .ok (.castore, 1) := by decide +kernel
theorem d2_193 : decode method_5_code 193 = .ok (.invokespecial 30, 3) := by decide +kernel
theorem d2_196 : decode method_5_code 196 = .ok (.areturn, 1) := by decide +kernel
theorem d3_0 : decode jdk_42_method_3_code 0 = .ok (.aload_n 0, 1) := by decide +kernel
theorem d3_1 : decode jdk_42_method_3_code 1 = .ok (.aload_n 1, 1) := by decide +kernel
theorem d3_2 : decode jdk_42_method_3_code 2 = .ok (.iconst 0, 1) := by decide +kernel
theorem d3_3 : decode jdk_42_method_3_code 3 = .ok (.aload_n 1, 1) := by decide +kernel
theorem d3_4 : decode jdk_42_method_3_code 4 = .ok (.arraylength, 1) := by decide +kernel
theorem d3_5 : decode jdk_42_method_3_code 5 = .ok (.aconst_null, 1) := by decide +kernel
theorem d3_6 : decode jdk_42_method_3_code 6 = .ok (.invokespecial 27, 3) := by decide +kernel
theorem d3_9 : decode jdk_42_method_3_code 9 = .ok (.return_, 1) := by decide +kernel
theorem d4_0 : decode jdk_42_method_149_code 0 = .ok (.aload_n 0, 1) := by decide +kernel
theorem d4_1 : decode jdk_42_method_149_code 1 = .ok (.invokespecial 1, 3) := by decide +kernel
theorem d4_4 : decode jdk_42_method_149_code 4 = .ok (.iload_n 3, 1) := by decide +kernel
theorem d4_5 : decode jdk_42_method_149_code 5 = .ok (.ifCond .ne 22, 3) := by decide +kernel
theorem d4_8 : decode jdk_42_method_149_code 8 = .ok (.aload_n 0, 1) := by decide +kernel
theorem d4_9 : decode jdk_42_method_149_code 9 = .ok (.ldc 7, 2) := by decide +kernel
theorem d4_11 : decode jdk_42_method_149_code 11 = .ok (.getfield 9, 3) := by decide +kernel
theorem d4_14 : decode jdk_42_method_149_code 14 = .ok (.putfield 9, 3) := by decide +kernel
theorem d4_17 : decode jdk_42_method_149_code 17 = .ok (.aload_n 0, 1) := by decide +kernel
theorem d4_18 : decode jdk_42_method_149_code 18 = .ok (.ldc 7, 2) := by decide +kernel
theorem d4_20 : decode jdk_42_method_149_code 20 = .ok (.getfield 15, 3) := by decide +kernel
theorem d4_23 : decode jdk_42_method_149_code 23 = .ok (.putfield 15, 3) := by decide +kernel
theorem d4_26 : decode jdk_42_method_149_code 26 = .ok (.return_, 1) := by decide +kernel
theorem d4_27 : decode jdk_42_method_149_code 27 = .ok (.getstatic 38, 3) := by decide +kernel
theorem d4_30 : decode jdk_42_method_149_code 30 = .ok (.ifCond .eq 28, 3) := by decide +kernel
theorem d4_33 : decode jdk_42_method_149_code 33 = .ok (.aload_n 1, 1) := by decide +kernel
theorem d4_34 : decode jdk_42_method_149_code 34 = .ok (.iload_n 2, 1) := by decide +kernel
theorem d4_35 : decode jdk_42_method_149_code 35 = .ok (.iload_n 3, 1) := by decide +kernel
theorem d4_36 : decode jdk_42_method_149_code 36 = .ok (.invokestatic 177, 3) := by decide +kernel
theorem d4_39 : decode jdk_42_method_149_code 39 = .ok (.astore 5, 2) := by decide +kernel
theorem d4_41 : decode jdk_42_method_149_code 41 = .ok (.aload_n 0, 1) := by decide +kernel
theorem d4_42 : decode jdk_42_method_149_code 42 = .ok (.aload 5, 2) := by decide +kernel
theorem d4_44 : decode jdk_42_method_149_code 44 = .ok (.iload_n 3, 1) := by decide +kernel
theorem d4_45 : decode jdk_42_method_149_code 45 = .ok (.invokestatic 47, 3) := by decide +kernel
theorem d4_48 : decode jdk_42_method_149_code 48 = .ok (.putfield 15, 3) := by decide +kernel
theorem d4_51 : decode jdk_42_method_149_code 51 = .ok (.aload_n 0, 1) := by decide +kernel
theorem d4_52 : decode jdk_42_method_149_code 52 = .ok (.aload 5, 2) := by decide +kernel
theorem d4_54 : decode jdk_42_method_149_code 54 = .ok (.putfield 9, 3) := by decide +kernel
theorem d4_57 : decode jdk_42_method_149_code 57 = .ok (.return_, 1) := by decide +kernel
theorem d6_0 : decode prog_16_method_11_code 0 = .ok (.aload_n 0, 1) := by decide +kernel
theorem d6_1 : decode prog_16_method_11_code 1 = .ok (.invokeinterface 129 1, 5) := by decide +kernel
theorem d6_6 : decode prog_16_method_11_code 6 = .ok (.iconst 4, 1) := by decide +kernel
theorem d6_7 : decode prog_16_method_11_code 7 = .ok (.if_icmp .eq 5, 3) := by decide +kernel
theorem d6_10 : decode prog_16_method_11_code 10 = .ok (.iconst 0, 1) := by decide +kernel
theorem d6_11 : decode prog_16_method_11_code 11 = .ok (.ireturn, 1) := by decide +kernel
theorem d6_12 : decode prog_16_method_11_code 12 = .ok (.iconst 0, 1) := by decide +kernel
theorem d6_13 : decode prog_16_method_11_code 13 = .ok (.istore_n 1, 1) := by decide +kernel
theorem d6_14 : decode prog_16_method_11_code 14 = .ok (.iload_n 1, 1) := by decide +kernel
theorem d6_15 : decode prog_16_method_11_code 15 = .ok (.iconst 4, 1) := by decide +kernel
theorem d6_16 : decode prog_16_method_11_code 16 = .ok (.if_icmp .ge 31, 3) := by decide +kernel
theorem d6_19 : decode prog_16_method_11_code 19 = .ok (.aload_n 0, 1) := by decide +kernel
theorem d6_20 : decode prog_16_method_11_code 20 = .ok (.iload_n 1, 1) := by decide +kernel
theorem d6_21 : decode prog_16_method_11_code 21 = .ok (.invokeinterface 134 2, 5) := by decide +kernel
theorem d6_26 : decode prog_16_method_11_code 26 = .ok (.istore_n 2, 1) := by decide +kernel
theorem d6_27 : decode prog_16_method_11_code 27 = .ok (.iload_n 2, 1) := by decide +kernel
theorem d6_28 : decode prog_16_method_11_code 28 = .ok (.bipush 48, 2) := by decide +kernel
theorem d6_30 : decode prog_16_method_11_code 30 = .ok (.if_icmp .lt 9, 3) := by decide +kernel
theorem d6_33 : decode prog_16_method_11_code 33 = .ok (.iload_n 2, 1) := by decide +kernel
theorem d6_34 : decode prog_16_method_11_code 34 = .ok (.bipush 57, 2) := by decide +kernel
theorem d6_36 : decode prog_16_method_11_code 36 = .ok (.if_icmp .le 5, 3) := by decide +kernel
theorem d6_39 : decode prog_16_method_11_code 39 = .ok (.iconst 0, 1) := by decide +kernel
theorem d6_40 : decode prog_16_method_11_code 40 = .ok (.ireturn, 1) := by decide +kernel
theorem d6_41 : decode prog_16_method_11_code 41 = .ok (.iinc 1 1, 3) := by decide +kernel
theorem d6_44 : decode prog_16_method_11_code 44 = .ok (.goto (-30), 3) := by decide +kernel
theorem d6_47 : decode prog_16_method_11_code 47 = .ok (.iconst 1, 1) := by decide +kernel
theorem d6_48 : decode prog_16_method_11_code 48 = .ok (.ireturn, 1) := by decide +kernel
theorem d7_0 : decode jdk_42_method_54_code 0 = .ok (.aload_n 0, 1) := by decide +kernel
theorem d7_1 : decode jdk_42_method_54_code 1 = .ok (.getfield 9, 3) := by decide +kernel
theorem d7_4 : decode jdk_42_method_54_code 4 = .ok (.arraylength, 1) := by decide +kernel
theorem d7_5 : decode jdk_42_method_54_code 5 = .ok (.aload_n 0, 1) := by decide +kernel
theorem d7_6 : decode jdk_42_method_54_code 6 = .ok (.invokevirtual 335, 3) := by decide +kernel
theorem d7_9 : decode jdk_42_method_54_code 9 = .ok (.ishr, 1) := by decide +kernel
theorem d7_10 : decode jdk_42_method_54_code 10 = .ok (.ireturn, 1) := by decide +kernel
theorem d8_0 : decode jdk_42_method_152_code 0 = .ok (.getstatic 38, 3) := by decide +kernel
theorem d8_3 : decode jdk_42_method_152_code 3 = .ok (.ifCond .eq 10, 3) := by decide +kernel
theorem d8_6 : decode jdk_42_method_152_code 6 = .ok (.aload_n 0, 1) := by decide +kernel
theorem d8_7 : decode jdk_42_method_152_code 7 = .ok (.getfield 15, 3) := by decide +kernel
theorem d8_10 : decode jdk_42_method_152_code 10 = .ok (.goto 4, 3) := by decide +kernel
theorem d8_14 : decode jdk_42_method_152_code 14 = .ok (.ireturn, 1) := by decide +kernel
theorem d9_0 : decode jdk_52_method_16_code 0 = .ok (.iload_n 2, 1) := by decide +kernel
theorem d9_1 : decode jdk_52_method_16_code 1 = .ok (.newarray .byte, 2) := by decide +kernel
theorem d9_3 : decode jdk_52_method_16_code 3 = .ok (.astore_n 3, 1) := by decide +kernel
theorem d9_4 : decode jdk_52_method_16_code 4 = .ok (.aload_n 0, 1) := by decide +kernel
theorem d9_5 : decode jdk_52_method_16_code 5 = .ok (.iload_n 1, 1) := by decide +kernel
theorem d9_6 : decode jdk_52_method_16_code 6 = .ok (.aload_n 3, 1) := by decide +kernel
theorem d9_7 : decode jdk_52_method_16_code 7 = .ok (.iconst 0, 1) := by decide +kernel
theorem d9_8 : decode jdk_52_method_16_code 8 = .ok (.iload_n 2, 1) := by decide +kernel
theorem d9_9 : decode jdk_52_method_16_code 9 = .ok (.invokestatic 115, 3) := by decide +kernel
theorem d9_12 : decode jdk_52_method_16_code 12 = .ok (.istore 4, 2) := by decide +kernel
theorem d9_14 : decode jdk_52_method_16_code 14 = .ok (.iload 4, 2) := by decide +kernel
theorem d9_16 : decode jdk_52_method_16_code 16 = .ok (.iload_n 2, 1) := by decide +kernel
theorem d9_17 : decode jdk_52_method_16_code 17 = .ok (.if_icmp .eq 40, 3) := by decide +kernel
theorem d9_20 : decode jdk_52_method_16_code 20 = .ok (.aload_n 0, 1) := by decide +kernel
theorem d9_21 : decode jdk_52_method_16_code 21 = .ok (.iload_n 1, 1) := by decide +kernel
theorem d9_22 : decode jdk_52_method_16_code 22 = .ok (.iload_n 2, 1) := by decide +kernel
theorem d9_23 : decode jdk_52_method_16_code 23 = .ok (.invokestatic 119, 3) := by decide +kernel
theorem d9_26 : decode jdk_52_method_16_code 26 = .ok (.astore 5, 2) := by decide +kernel
theorem d9_28 : decode jdk_52_method_16_code 28 = .ok (.aload 5, 2) := by decide +kernel
theorem d9_30 : decode jdk_52_method_16_code 30 = .ok (.iload 4, 2) := by decide +kernel
theorem d9_32 : decode jdk_52_method_16_code 32 = .ok (.invokestatic 71, 3) := by decide +kernel
theorem d9_35 : decode jdk_52_method_16_code 35 = .ok (.sipush 255, 3) := by decide +kernel
theorem d9_38 : decode jdk_52_method_16_code 38 = .ok (.if_icmp .gt 16, 3) := by decide +kernel
theorem d9_54 : decode jdk_52_method_16_code 54 = .ok (.aload 5, 2) := by decide +kernel
theorem d9_56 : decode jdk_52_method_16_code 56 = .ok (.areturn, 1) := by decide +kernel
theorem d9_57 : decode jdk_52_method_16_code 57 = .ok (.aload_n 3, 1) := by decide +kernel
theorem d9_58 : decode jdk_52_method_16_code 58 = .ok (.areturn, 1) := by decide +kernel
theorem d10_0 : decode jdk_52_method_21_code 0 = .ok (.iconst 0, 1) := by decide +kernel
theorem d10_1 : decode jdk_52_method_21_code 1 = .ok (.istore 5, 2) := by decide +kernel
theorem d10_3 : decode jdk_52_method_21_code 3 = .ok (.iload 5, 2) := by decide +kernel
theorem d10_5 : decode jdk_52_method_21_code 5 = .ok (.iload 4, 2) := by decide +kernel
theorem d10_7 : decode jdk_52_method_21_code 7 = .ok (.if_icmp .ge 37, 3) := by decide +kernel
theorem d10_10 : decode jdk_52_method_21_code 10 = .ok (.aload_n 0, 1) := by decide +kernel
theorem d10_11 : decode jdk_52_method_21_code 11 = .ok (.iload_n 1, 1) := by decide +kernel
theorem d10_12 : decode jdk_52_method_21_code 12 = .ok (.caload, 1) := by decide +kernel
theorem d10_13 : decode jdk_52_method_21_code 13 = .ok (.istore 6, 2) := by decide +kernel
theorem d10_15 : decode jdk_52_method_21_code 15 = .ok (.iload 6, 2) := by decide +kernel
theorem d10_17 : decode jdk_52_method_21_code 17 = .ok (.sipush 255, 3) := by decide +kernel
theorem d10_20 : decode jdk_52_method_21_code 20 = .ok (.if_icmp .le 6, 3) := by decide +kernel
theorem d10_23 : decode jdk_52_method_21_code 23 = .ok (.iload 5, 2) := by decide +kernel
theorem d10_25 : decode jdk_52_method_21_code 25 = .ok (.ireturn, 1) := by decide +kernel
theorem d10_26 : decode jdk_52_method_21_code 26 = .ok (.aload_n 2, 1) := by decide +kernel
theorem d10_27 : decode jdk_52_method_21_code 27 = .ok (.iload_n 3, 1) := by decide +kernel
theorem d10_28 : decode jdk_52_method_21_code 28 = .ok (.iload 6, 2) := by decide +kernel
theorem d10_30 : decode jdk_52_method_21_code 30 = .ok (.i2b, 1) := by decide +kernel
theorem d10_31 : decode jdk_52_method_21_code 31 = .ok (.bastore, 1) := by decide +kernel
theorem d10_32 : decode jdk_52_method_21_code 32 = .ok (.iinc 1 1, 3) := by decide +kernel
theorem d10_35 : decode jdk_52_method_21_code 35 = .ok (.iinc 3 1, 3) := by decide +kernel
theorem d10_38 : decode jdk_52_method_21_code 38 = .ok (.iinc 5 1, 3) := by decide +kernel
theorem d10_41 : decode jdk_52_method_21_code 41 = .ok (.goto (-38), 3) := by decide +kernel
theorem d10_44 : decode jdk_52_method_21_code 44 = .ok (.iload 4, 2) := by decide +kernel
theorem d10_46 : decode jdk_52_method_21_code 46 = .ok (.ireturn, 1) := by decide +kernel
theorem d11_0 : decode jdk_52_method_15_code 0 = .ok (.iload_n 1, 1) := by decide +kernel
theorem d11_1 : decode jdk_52_method_15_code 1 = .ok (.aload_n 0, 1) := by decide +kernel
theorem d11_2 : decode jdk_52_method_15_code 2 = .ok (.arraylength, 1) := by decide +kernel
theorem d11_3 : decode jdk_52_method_15_code 3 = .ok (.isub, 1) := by decide +kernel
theorem d11_4 : decode jdk_52_method_15_code 4 = .ok (.bipush 31, 2) := by decide +kernel
theorem d11_6 : decode jdk_52_method_15_code 6 = .ok (.iushr, 1) := by decide +kernel
theorem d11_7 : decode jdk_52_method_15_code 7 = .ok (.i2b, 1) := by decide +kernel
theorem d11_8 : decode jdk_52_method_15_code 8 = .ok (.ireturn, 1) := by decide +kernel
theorem d12_0 : decode jdk_52_method_14_code 0 = .ok (.iload_n 2, 1) := by decide +kernel
theorem d12_1 : decode jdk_52_method_14_code 1 = .ok (.invokestatic 107, 3) := by decide +kernel
theorem d12_4 : decode jdk_52_method_14_code 4 = .ok (.astore_n 3, 1) := by decide +kernel
theorem d12_5 : decode jdk_52_method_14_code 5 = .ok (.iconst 0, 1) := by decide +kernel
theorem d12_6 : decode jdk_52_method_14_code 6 = .ok (.istore 4, 2) := by decide +kernel
theorem d12_8 : decode jdk_52_method_14_code 8 = .ok (.iload 4, 2) := by decide +kernel
theorem d12_10 : decode jdk_52_method_14_code 10 = .ok (.iload_n 2, 1) := by decide +kernel
theorem d12_11 : decode jdk_52_method_14_code 11 = .ok (.if_icmp .ge 21, 3) := by decide +kernel
theorem d12_14 : decode jdk_52_method_14_code 14 = .ok (.aload_n 3, 1) := by decide +kernel
theorem d12_15 : decode jdk_52_method_14_code 15 = .ok (.iload 4, 2) := by decide +kernel
theorem d12_17 : decode jdk_52_method_14_code 17 = .ok (.aload_n 0, 1) := by decide +kernel
theorem d12_18 : decode jdk_52_method_14_code 18 = .ok (.iload_n 1, 1) := by decide +kernel
theorem d12_19 : decode jdk_52_method_14_code 19 = .ok (.caload, 1) := by decide +kernel
theorem d12_20 : decode jdk_52_method_14_code 20 = .ok (.invokestatic 111, 3) := by decide +kernel
theorem d12_23 : decode jdk_52_method_14_code 23 = .ok (.iinc 1 1, 3) := by decide +kernel
theorem d12_26 : decode jdk_52_method_14_code 26 = .ok (.iinc 4 1, 3) := by decide +kernel
theorem d12_29 : decode jdk_52_method_14_code 29 = .ok (.goto (-21), 3) := by decide +kernel
theorem d12_32 : decode jdk_52_method_14_code 32 = .ok (.aload_n 3, 1) := by decide +kernel
theorem d12_33 : decode jdk_52_method_14_code 33 = .ok (.areturn, 1) := by decide +kernel
theorem d13_0 : decode jdk_52_method_2_code 0 = .ok (.iload_n 0, 1) := by decide +kernel
theorem d13_1 : decode jdk_52_method_2_code 1 = .ok (.invokestatic 11, 3) := by decide +kernel
theorem d13_4 : decode jdk_52_method_2_code 4 = .ok (.newarray .byte, 2) := by decide +kernel
theorem d13_6 : decode jdk_52_method_2_code 6 = .ok (.areturn, 1) := by decide +kernel
theorem d14_0 : decode jdk_52_method_3_code 0 = .ok (.iload_n 0, 1) := by decide +kernel
theorem d14_1 : decode jdk_52_method_3_code 1 = .ok (.ifCond .ge 11, 3) := by decide +kernel
theorem d14_12 : decode jdk_52_method_3_code 12 = .ok (.iload_n 0, 1) := by decide +kernel
theorem d14_13 : decode jdk_52_method_3_code 13 = .ok (.ldc 20, 2) := by decide +kernel
theorem d14_15 : decode jdk_52_method_3_code 15 = .ok (.if_icmp .lt 40, 3) := by decide +kernel
theorem d14_55 : decode jdk_52_method_3_code 55 = .ok (.iload_n 0, 1) := by decide +kernel
theorem d14_56 : decode jdk_52_method_3_code 56 = .ok (.iconst 1, 1) := by decide +kernel
theorem d14_57 : decode jdk_52_method_3_code 57 = .ok (.ishl, 1) := by decide +kernel
theorem d14_58 : decode jdk_52_method_3_code 58 = .ok (.ireturn, 1) := by decide +kernel
theorem d15_0 : decode jdk_52_method_4_code 0 = .ok (.getstatic 44, 3) := by decide +kernel
theorem d15_3 : decode jdk_52_method_4_code 3 = .ok (.ifCond .ne 25, 3) := by decide +kernel
theorem d15_28 : decode jdk_52_method_4_code 28 = .ok (.iload_n 1, 1) := by decide +kernel
theorem d15_29 : decode jdk_52_method_4_code 29 = .ok (.iconst 1, 1) := by decide +kernel
theorem d15_30 : decode jdk_52_method_4_code 30 = .ok (.ishl, 1) := by decide +kernel
theorem d15_31 : decode jdk_52_method_4_code 31 = .ok (.istore_n 1, 1) := by decide +kernel
theorem d15_32 : decode jdk_52_method_4_code 32 = .ok (.aload_n 0, 1) := by decide +kernel
theorem d15_33 : decode jdk_52_method_4_code 33 = .ok (.iload_n 1, 1) := by decide +kernel
theorem d15_34 : decode jdk_52_method_4_code 34 = .ok (.iinc 1 1, 3) := by decide +kernel
theorem d15_37 : decode jdk_52_method_4_code 37 = .ok (.iload_n 2, 1) := by decide +kernel
theorem d15_38 : decode jdk_52_method_4_code 38 = .ok (.getstatic 59, 3) := by decide +kernel
theorem d15_41 : decode jdk_52_method_4_code 41 = .ok (.ishr, 1) := by decide +kernel
theorem d15_42 : decode jdk_52_method_4_code 42 = .ok (.i2b, 1) := by decide +kernel
theorem d15_43 : decode jdk_52_method_4_code 43 = .ok (.bastore, 1) := by decide +kernel
theorem d15_44 : decode jdk_52_method_4_code 44 = .ok (.aload_n 0, 1) := by decide +kernel
theorem d15_45 : decode jdk_52_method_4_code 45 = .ok (.iload_n 1, 1) := by decide +kernel
theorem d15_46 : decode jdk_52_method_4_code 46 = .ok (.iload_n 2, 1) := by decide +kernel
theorem d15_47 : decode jdk_52_method_4_code 47 = .ok (.getstatic 63, 3) := by decide +kernel
theorem d15_50 : decode jdk_52_method_4_code 50 = .ok (.ishr, 1) := by decide +kernel
theorem d15_51 : decode jdk_52_method_4_code 51 = .ok (.i2b, 1) := by decide +kernel
theorem d15_52 : decode jdk_52_method_4_code 52 = .ok (.bastore, 1) := by decide +kernel
theorem d15_53 : decode jdk_52_method_4_code 53 = .ok (.return_, 1) := by decide +kernel
theorem d16_0 : decode jdk_52_method_5_code 0 = .ok (.getstatic 44, 3) := by decide +kernel
theorem d16_3 : decode jdk_52_method_5_code 3 = .ok (.ifCond .ne 25, 3) := by decide +kernel
theorem d16_28 : decode jdk_52_method_5_code 28 = .ok (.iload_n 1, 1) := by decide +kernel
theorem d16_29 : decode jdk_52_method_5_code 29 = .ok (.iconst 1, 1) := by decide +kernel
theorem d16_30 : decode jdk_52_method_5_code 30 = .ok (.ishl, 1) := by decide +kernel
theorem d16_31 : decode jdk_52_method_5_code 31 = .ok (.istore_n 1, 1) := by decide +kernel
theorem d16_32 : decode jdk_52_method_5_code 32 = .ok (.aload_n 0, 1) := by decide +kernel
theorem d16_33 : decode jdk_52_method_5_code 33 = .ok (.iload_n 1, 1) := by decide +kernel
theorem d16_34 : decode jdk_52_method_5_code 34 = .ok (.iinc 1 1, 3) := by decide +kernel
theorem d16_37 : decode jdk_52_method_5_code 37 = .ok (.baload, 1) := by decide +kernel
theorem d16_38 : decode jdk_52_method_5_code 38 = .ok (.sipush 255, 3) := by decide +kernel
theorem d16_41 : decode jdk_52_method_5_code 41 = .ok (.iand, 1) := by decide +kernel
theorem d16_42 : decode jdk_52_method_5_code 42 = .ok (.getstatic 59, 3) := by decide +kernel
theorem d16_45 : decode jdk_52_method_5_code 45 = .ok (.ishl, 1) := by decide +kernel
theorem d16_46 : decode jdk_52_method_5_code 46 = .ok (.aload_n 0, 1) := by decide +kernel
theorem d16_47 : decode jdk_52_method_5_code 47 = .ok (.iload_n 1, 1) := by decide +kernel
theorem d16_48 : decode jdk_52_method_5_code 48 = .ok (.baload, 1) := by decide +kernel
theorem d16_49 : decode jdk_52_method_5_code 49 = .ok (.sipush 255, 3) := by decide +kernel
theorem d16_52 : decode jdk_52_method_5_code 52 = .ok (.iand, 1) := by decide +kernel
theorem d16_53 : decode jdk_52_method_5_code 53 = .ok (.getstatic 63, 3) := by decide +kernel
theorem d16_56 : decode jdk_52_method_5_code 56 = .ok (.ishl, 1) := by decide +kernel
theorem d16_57 : decode jdk_52_method_5_code 57 = .ok (.ior, 1) := by decide +kernel
theorem d16_58 : decode jdk_52_method_5_code 58 = .ok (.i2c, 1) := by decide +kernel
theorem d16_59 : decode jdk_52_method_5_code 59 = .ok (.ireturn, 1) := by decide +kernel
theorem d17_0 : decode method_3_code 0 = .ok (.iload_n 0, 1) := by decide +kernel
theorem d17_1 : decode method_3_code 1 = .ok (.bipush 48, 2) := by decide +kernel
theorem d17_3 : decode method_3_code 3 = .ok (.if_icmp .lt 13, 3) := by decide +kernel
theorem d17_6 : decode method_3_code 6 = .ok (.iload_n 0, 1) := by decide +kernel
theorem d17_7 : decode method_3_code 7 = .ok (.bipush 57, 2) := by decide +kernel
theorem d17_9 : decode method_3_code 9 = .ok (.if_icmp .gt 7, 3) := by decide +kernel
theorem d17_12 : decode method_3_code 12 = .ok (.iconst 1, 1) := by decide +kernel
theorem d17_13 : decode method_3_code 13 = .ok (.goto 4, 3) := by decide +kernel
theorem d17_16 : decode method_3_code 16 = .ok (.iconst 0, 1) := by decide +kernel
theorem d17_17 : decode method_3_code 17 = .ok (.ireturn, 1) := by decide +kernel
theorem d18_0 : decode jdk_42_method_56_code 0 = .ok (.aload_n 0, 1) := by decide +kernel
theorem d18_1 : decode jdk_42_method_56_code 1 = .ok (.invokevirtual 492, 3) := by decide +kernel
theorem d18_4 : decode jdk_42_method_56_code 4 = .ok (.ifCond .eq 12, 3) := by decide +kernel
theorem d18_7 : decode jdk_42_method_56_code 7 = .ok (.aload_n 0, 1) := by decide +kernel
theorem d18_8 : decode jdk_42_method_56_code 8 = .ok (.getfield 9, 3) := by decide +kernel
theorem d18_11 : decode jdk_42_method_56_code 11 = .ok (.iload_n 1, 1) := by decide +kernel
theorem d18_12 : decode jdk_42_method_56_code 12 = .ok (.invokestatic 495, 3) := by decide +kernel
theorem d18_15 : decode jdk_42_method_56_code 15 = .ok (.ireturn, 1) := by decide +kernel
theorem d18_16 : decode jdk_42_method_56_code 16 = .ok (.aload_n 0, 1) := by decide +kernel
theorem d18_17 : decode jdk_42_method_56_code 17 = .ok (.getfield 9, 3) := by decide +kernel
theorem d18_20 : decode jdk_42_method_56_code 20 = .ok (.iload_n 1, 1) := by decide +kernel
theorem d18_21 : decode jdk_42_method_56_code 21 = .ok (.invokestatic 498, 3) := by decide +kernel
theorem d18_24 : decode jdk_42_method_56_code 24 = .ok (.ireturn, 1) := by decide +kernel
theorem d19_0 : decode jdk_42_method_154_code 0 = .ok (.getstatic 38, 3) := by decide +kernel
theorem d19_3 : decode jdk_42_method_154_code 3 = .ok (.ifCond .eq 14, 3) := by decide +kernel
theorem d19_6 : decode jdk_42_method_154_code 6 = .ok (.aload_n 0, 1) := by decide +kernel
theorem d19_7 : decode jdk_42_method_154_code 7 = .ok (.getfield 15, 3) := by decide +kernel
theorem d19_10 : decode jdk_42_method_154_code 10 = .ok (.ifCond .ne 7, 3) := by decide +kernel
theorem d19_13 : decode jdk_42_method_154_code 13 = .ok (.iconst 1, 1) := by decide +kernel
theorem d19_14 : decode jdk_42_method_154_code 14 = .ok (.goto 4, 3) := by decide +kernel
theorem d19_17 : decode jdk_42_method_154_code 17 = .ok (.iconst 0, 1) := by decide +kernel
theorem d19_18 : decode jdk_42_method_154_code 18 = .ok (.ireturn, 1) := by decide +kernel
theorem d20_0 : decode jdk_52_method_83_code 0 = .ok (.iload_n 1, 1) := by decide +kernel
theorem d20_1 : decode jdk_52_method_83_code 1 = .ok (.aload_n 0, 1) := by decide +kernel
theorem d20_2 : decode jdk_52_method_83_code 2 = .ok (.invokestatic 67, 3) := by decide +kernel
theorem d20_5 : decode jdk_52_method_83_code 5 = .ok (.aload_n 0, 1) := by decide +kernel
theorem d20_6 : decode jdk_52_method_83_code 6 = .ok (.iload_n 1, 1) := by decide +kernel
theorem d20_7 : decode jdk_52_method_83_code 7 = .ok (.invokestatic 71, 3) := by decide +kernel
theorem d20_10 : decode jdk_52_method_83_code 10 = .ok (.ireturn, 1) := by decide +kernel
theorem d21_0 : decode jdk_52_method_91_code 0 = .ok (.iload_n 0, 1) := by decide +kernel
theorem d21_1 : decode jdk_52_method_91_code 1 = .ok (.aload_n 1, 1) := by decide +kernel
theorem d21_2 : decode jdk_52_method_91_code 2 = .ok (.invokestatic 48, 3) := by decide +kernel
theorem d21_5 : decode jdk_52_method_91_code 5 = .ok (.invokestatic 414, 3) := by decide +kernel
theorem d21_8 : decode jdk_52_method_91_code 8 = .ok (.return_, 1) := by decide +kernel
theorem d22_0 : decode jdk_52_method_6_code 0 = .ok (.aload_n 0, 1) := by decide +kernel
theorem d22_1 : decode jdk_52_method_6_code 1 = .ok (.arraylength, 1) := by decide +kernel
theorem d22_2 : decode jdk_52_method_6_code 2 = .ok (.iconst 1, 1) := by decide +kernel
theorem d22_3 : decode jdk_52_method_6_code 3 = .ok (.ishr, 1) := by decide +kernel
theorem d22_4 : decode jdk_52_method_6_code 4 = .ok (.ireturn, 1) := by decide +kernel
theorem d23_0 : decode jdk_42_method_155_code 0 = .ok (.iload_n 0, 1) := by decide +kernel
theorem d23_1 : decode jdk_42_method_155_code 1 = .ok (.iload_n 1, 1) := by decide +kernel
theorem d23_2 : decode jdk_42_method_155_code 2 = .ok (.getstatic 1053, 3) := by decide +kernel
theorem d23_5 : decode jdk_42_method_155_code 5 = .ok (.invokestatic 1059, 3) := by decide +kernel
theorem d23_8 : decode jdk_42_method_155_code 8 = .ok (.pop, 1) := by decide +kernel
theorem d23_9 : decode jdk_42_method_155_code 9 = .ok (.return_, 1) := by decide +kernel
theorem d24_0 : decode jdk_41_method_11_code 0 = .ok (.iload_n 0, 1) := by decide +kernel
theorem d24_1 : decode jdk_41_method_11_code 1 = .ok (.ifCond .lt 8, 3) := by decide +kernel
theorem d24_4 : decode jdk_41_method_11_code 4 = .ok (.iload_n 0, 1) := by decide +kernel
theorem d24_5 : decode jdk_41_method_11_code 5 = .ok (.iload_n 1, 1) := by decide +kernel
theorem d24_6 : decode jdk_41_method_11_code 6 = .ok (.if_icmp .lt 10, 3) := by decide +kernel
theorem d24_16 : decode jdk_41_method_11_code 16 = .ok (.iload_n 0, 1) := by decide +kernel
theorem d24_17 : decode jdk_41_method_11_code 17 = .ok (.ireturn, 1) := by decide +kernel
theorem d25_0 : decode jdk_43_method_2_code 0 = .ok (.iload_n 1, 1) := by decide +kernel
theorem d25_1 : decode jdk_43_method_2_code 1 = .ok (.aload_n 0, 1) := by decide +kernel
theorem d25_2 : decode jdk_43_method_2_code 2 = .ok (.arraylength, 1) := by decide +kernel
theorem d25_3 : decode jdk_43_method_2_code 3 = .ok (.invokestatic 9, 3) := by decide +kernel
theorem d25_6 : decode jdk_43_method_2_code 6 = .ok (.aload_n 0, 1) := by decide +kernel
theorem d25_7 : decode jdk_43_method_2_code 7 = .ok (.iload_n 1, 1) := by decide +kernel
theorem d25_8 : decode jdk_43_method_2_code 8 = .ok (.baload, 1) := by decide +kernel
theorem d25_9 : decode jdk_43_method_2_code 9 = .ok (.sipush 255, 3) := by decide +kernel
theorem d25_12 : decode jdk_43_method_2_code 12 = .ok (.iand, 1) := by decide +kernel
theorem d25_13 : decode jdk_43_method_2_code 13 = .ok (.i2c, 1) := by decide +kernel
theorem d25_14 : decode jdk_43_method_2_code 14 = .ok (.ireturn, 1) := by decide +kernel
theorem pd_0 : parseMethodDescriptor "(I)I" = some ⟨[.int], some .int⟩ := by decide +kernel
theorem pd_1 : parseMethodDescriptor "([BII)V" = some ⟨[(.array .byte), .int, .int], none⟩ := by decide +kernel
theorem pd_2 : parseMethodDescriptor "(I)[B" = some ⟨[.int], some (.array .byte)⟩ := by decide +kernel
theorem pd_3 : parseMethodDescriptor "([CI[BII)I" = some ⟨[(.array .char), .int, (.array .byte), .int, .int], some .int⟩ := by decide +kernel
theorem pd_4 : parseMethodDescriptor "([CII)[B" = some ⟨[(.array .char), .int, .int], some (.array .byte)⟩ := by decide +kernel
theorem pd_5 : parseMethodDescriptor "([BI)C" = some ⟨[(.array .byte), .int], some .char⟩ := by decide +kernel
theorem pd_6 : parseMethodDescriptor "([BI)B" = some ⟨[(.array .byte), .int], some .byte⟩ := by decide +kernel
theorem pd_7 : parseMethodDescriptor "([CIILjava/lang/Void;)V" = some ⟨[(.array .char), .int, .int, (.object "java/lang/Void")], none⟩ := by decide +kernel
theorem pd_8 : parseMethodDescriptor "([C)V" = some ⟨[(.array .char)], none⟩ := by decide +kernel
theorem pd_9 : parseMethodDescriptor "()B" = some ⟨[], some .byte⟩ := by decide +kernel
theorem pd_10 : parseMethodDescriptor "(IILjava/util/function/BiFunction;)I" = some ⟨[.int, .int, (.object "java/util/function/BiFunction")], some .int⟩ := by decide +kernel
theorem pd_11 : parseMethodDescriptor "([B)I" = some ⟨[(.array .byte)], some .int⟩ := by decide +kernel
theorem pd_12 : parseMethodDescriptor "(II)V" = some ⟨[.int, .int], none⟩ := by decide +kernel
theorem pd_13 : parseMethodDescriptor "(I[B)V" = some ⟨[.int, (.array .byte)], none⟩ := by decide +kernel
theorem pd_14 : parseMethodDescriptor "()Z" = some ⟨[], some .boolean⟩ := by decide +kernel
theorem pd_15 : parseMethodDescriptor "()I" = some ⟨[], some .int⟩ := by decide +kernel
theorem pd_16 : parseMethodDescriptor "(I)C" = some ⟨[.int], some .char⟩ := by decide +kernel
theorem pd_17 : parseMethodDescriptor "(Ljava/lang/CharSequence;)Z" = some ⟨[(.object "java/lang/CharSequence")], some .boolean⟩ := by decide +kernel
theorem pd_18 : parseMethodDescriptor "(III)C" = some ⟨[.int, .int, .int], some .char⟩ := by decide +kernel
theorem pd_19 : parseMethodDescriptor "(ICCCCCC)Ljava/lang/String;" = some ⟨[.int, .char, .char, .char, .char, .char, .char], some (.object "java/lang/String")⟩ := by decide +kernel
theorem pd_20 : parseMethodDescriptor "(C)Z" = some ⟨[.char], some .boolean⟩ := by decide +kernel
def own_lo (c : Int32) : Int32 := c.toInt8.toInt32
def own_hi (c : Int32) : Int32 := (c >>> ((8 : Int32) &&& 31)).toInt8.toInt32
def own_lat (cf : Nat → Int32) : Nat → Value := fun j => .int (own_lo (cf j))
def own_utf (cf : Nat → Int32) : Nat → Value := fun j => .int (if j % 2 = 0 then own_lo (cf (j / 2)) else own_hi (cf (j / 2)))
def own_lk (cf : Nat → Int32) (i : Nat) : Nat → Value := fun j => if j < i then own_lat cf j else .int 0
def own_uk (cf : Nat → Int32) (i : Nat) : Nat → Value := fun j => if j < 2 * i then own_utf cf j else .int 0
def own_dig (p : Int32) : Prop := 48 ≤ p.toInt ∧ p.toInt ≤ 57
def own_Str (Z : State) (h : Heap) (x : Addr) (n : Nat) (cf : Nat → Int32) : Prop := Exa Z h x "java/lang/String" ∧ ((∃ t : Addr, Fld Z h x "java/lang/String" "coder" "B" (.int 0) ∧ Fld Z h x "java/lang/String" "value" "[B" (.ref t) ∧ Arw Z h t .byte (Int32.ofNat n) (own_lat cf) ∧ ∀ j, j < n → ¬ 255 < (cf j).toInt) ∨ (∃ t : Addr, Fld Z h x "java/lang/String" "coder" "B" (.int 1) ∧ Fld Z h x "java/lang/String" "value" "[B" (.ref t) ∧ Arw Z h t .byte (Int32.ofNat (2 * n)) (own_utf cf)))
def own_cf (c0 c1 c2 c3 c4 c5 : Int32) : Nat → Int32
  | 0 => c0
  | 1 => c1
  | 2 => c2
  | 3 => c3
  | 4 => c4
  | _ => c5
def own_bnd (c0 c1 c2 c3 c4 c5 : Int32) : Prop := (0 ≤ c0.toInt ∧ c0.toInt < 65536) ∧ (0 ≤ c1.toInt ∧ c1.toInt < 65536) ∧ (0 ≤ c2.toInt ∧ c2.toInt < 65536) ∧ (0 ≤ c3.toInt ∧ c3.toInt < 65536) ∧ (0 ≤ c4.toInt ∧ c4.toInt < 65536) ∧ (0 ≤ c5.toInt ∧ c5.toInt < 65536)
theorem own_cfb {c0 c1 c2 c3 c4 c5 : Int32} (hb : own_bnd c0 c1 c2 c3 c4 c5) {n : Nat} : ∀ j, j < n → 0 ≤ (own_cf c0 c1 c2 c3 c4 c5 j).toInt ∧ (own_cf c0 c1 c2 c3 c4 c5 j).toInt < 65536 := fun j _ => by
  obtain ⟨b0, b1, b2, b3, b4, b5⟩ := hb
  match j with
  | 0 => exact b0
  | 1 => exact b1
  | 2 => exact b2
  | 3 => exact b3
  | 4 => exact b4
  | _ + 5 => exact b5
theorem own_nb (x : Int32) : nar .byte x.toInt8.toInt32 = x.toInt8.toInt32 := by
  have a := c_i2b x
  have b := c_i2b x.toInt8.toInt32
  show x.toInt8.toInt32.toInt8.toInt32 = _
  rw [← Int32.toInt_inj]; omega
theorem own_nc {x : Int32} (h : 0 ≤ x.toInt ∧ x.toInt < 65536) : nar .char x = x := by
  have a := c_i2c x
  show x.toUInt32.toUInt16.toUInt32.toInt32 = _
  rw [← Int32.toInt_inj]; omega
theorem own_sh0 {x : Int32} : x >>> ((0 : Int32) &&& 31) = x := by
  rw [show ((0 : Int32) &&& 31) = 0 from rfl, ← Int32.toBitVec_inj, Int32.toBitVec_shiftRight]; simp
theorem own_shlF : ∀ n : Fin 16, Int32.ofNat n.val <<< ((1 : Int32) &&& 31) = Int32.ofNat (2 * n.val) := by decide +kernel
theorem own_shl {n : Nat} (h : n < 16) : Int32.ofNat n <<< ((1 : Int32) &&& 31) = Int32.ofNat (2 * n) := own_shlF ⟨n, h⟩
theorem own_shrF : ∀ n : Fin 16, Int32.ofNat (2 * n.val) >>> ((1 : Int32) &&& 31) = Int32.ofNat n.val := by decide +kernel
theorem own_shr {n : Nat} (h : n < 16) : Int32.ofNat (2 * n) >>> ((1 : Int32) &&& 31) = Int32.ofNat n := own_shrF ⟨n, h⟩
theorem own_ltB {n : Nat} (h : n ≤ 6) : Int32.ofNat n < (1073741823 : Int32) := by
  rw [Int32.lt_iff_toInt_lt, n32_toInt (by omega), show (1073741823 : Int32).toInt = 1073741823 from rfl]; omega
theorem own_clF0 : ∀ n : Fin 7, ((Int32.ofNat n.val - Int32.ofNat n.val).toUInt32 >>> ((31 : Int32) &&& 31).toUInt32).toInt32.toInt8.toInt32 = 0 := by decide +kernel
theorem own_cl0 {n : Nat} (h6 : n ≤ 6) : ((Int32.ofNat n - Int32.ofNat n).toUInt32 >>> ((31 : Int32) &&& 31).toUInt32).toInt32.toInt8.toInt32 = 0 := own_clF0 ⟨n, by omega⟩
theorem own_clF1 : ∀ n : Fin 7, 1 ≤ n.val → ((Int32.ofNat n.val - Int32.ofNat (2 * n.val)).toUInt32 >>> ((31 : Int32) &&& 31).toUInt32).toInt32.toInt8.toInt32 = 1 := by decide +kernel
theorem own_cl1 {n : Nat} (h1 : 1 ≤ n) (h6 : n ≤ 6) : ((Int32.ofNat n - Int32.ofNat (2 * n)).toUInt32 >>> ((31 : Int32) &&& 31).toUInt32).toInt32.toInt8.toInt32 = 1 := own_clF1 ⟨n, by omega⟩ h1
theorem own_inj4 {n : Nat} (h : n ≤ 6) (e : Int32.ofNat n = 4) : n = 4 := by
  have q := congrArg Int32.toInt e
  rw [n32_toInt (by omega), show (4 : Int32).toInt = 4 from rfl] at q; omega
theorem own_n0 {n : Nat} (h1 : 1 ≤ n) (h6 : n ≤ 6) : ¬ Int32.ofNat n = 0 := fun e => by
  have q := congrArg Int32.toInt e
  rw [n32_toInt (by omega), show (0 : Int32).toInt = 0 from rfl] at q; omega
theorem own_nen {r n : Nat} (h : r < n) (h6 : n ≤ 6) : ¬ Int32.ofNat r = Int32.ofNat n := fun e => by
  have q := congrArg Int32.toInt e
  rw [n32_toInt (by omega), n32_toInt (by omega)] at q; omega
theorem own_pc {f : Nat → Value} {i : Nat} {p : Int32} (h : i < 100) (j : Nat) : upd (upd f (Int32.ofNat (2 * i)).toNatClampNeg (.int (nar .byte (p >>> ((0 : Int32) &&& 31)).toInt8.toInt32))) (Int32.ofNat (2 * i + 1)).toNatClampNeg (.int (nar .byte (p >>> ((8 : Int32) &&& 31)).toInt8.toInt32)) j = upd (upd f (2 * i) (.int (own_lo p))) (2 * i + 1) (.int (own_hi p)) j := by
  rw [n32_nat (by omega), n32_nat (by omega), own_nb, own_nb, own_sh0]; rfl
theorem own_lk0 {cf : Nat → Int32} (j : Nat) : Value.int 0 = own_lk cf 0 j := by rw [own_lk, if_neg (Nat.not_lt_zero j)]
theorem own_lk_all {cf : Nat → Int32} {i j : Nat} (h : j < i) : own_lk cf i j = own_lat cf j := by rw [own_lk, if_pos h]
theorem own_lks {cf : Nat → Int32} {i : Nat} (h : i < 100) (j : Nat) : upd (own_lk cf i) (Int32.ofNat i).toNatClampNeg (.int (nar .byte (cf i).toInt8.toInt32)) j = own_lk cf (i + 1) j := by
  rw [n32_nat (by omega), own_nb, upd]
  by_cases e : j = i
  · subst e; rw [if_pos rfl, own_lk, if_pos (Nat.lt_succ_self j)]; rfl
  · rw [if_neg e, own_lk, own_lk]
    by_cases q : j < i
    · rw [if_pos q, if_pos (by omega)]
    · rw [if_neg q, if_neg (by omega)]
theorem own_uk0 {cf : Nat → Int32} (j : Nat) : Value.int 0 = own_uk cf 0 j := by rw [own_uk, if_neg (by omega)]
theorem own_uk_all {cf : Nat → Int32} {i j : Nat} (h : j < 2 * i) : own_uk cf i j = own_utf cf j := by rw [own_uk, if_pos h]
theorem own_utf0 (cf : Nat → Int32) (i : Nat) : own_utf cf (2 * i) = .int (own_lo (cf i)) := by
  rw [own_utf, if_pos (by omega), show 2 * i / 2 = i by omega]
theorem own_utf1 (cf : Nat → Int32) (i : Nat) : own_utf cf (2 * i + 1) = .int (own_hi (cf i)) := by
  rw [own_utf, if_neg (by omega), show (2 * i + 1) / 2 = i by omega]
theorem own_u0 {cf : Nat → Int32} {i : Nat} (h : i < 100) : own_utf cf (Int32.ofNat (2 * i)).toNatClampNeg = .int (own_lo (cf i)) := by rw [n32_nat (by omega), own_utf0]
theorem own_u1 {cf : Nat → Int32} {i : Nat} (h : i < 100) : own_utf cf (Int32.ofNat (2 * i + 1)).toNatClampNeg = .int (own_hi (cf i)) := by rw [n32_nat (by omega), own_utf1]
theorem own_uks {cf : Nat → Int32} {i : Nat} (h : i < 100) (j : Nat) : upd (upd (own_uk cf i) (2 * i) (.int (own_lo (cf i)))) (2 * i + 1) (.int (own_hi (cf i))) j = own_uk cf (i + 1) j := by
  rw [upd]
  by_cases e : j = 2 * i + 1
  · subst e; rw [if_pos rfl, own_uk, if_pos (by omega), own_utf1]
  · rw [if_neg e, upd]
    by_cases e' : j = 2 * i
    · subst e'; rw [if_pos rfl, own_uk, if_pos (by omega), own_utf0]
    · rw [if_neg e', own_uk, own_uk]
      by_cases q : j < 2 * i
      · rw [if_pos q, if_pos (by omega)]
      · rw [if_neg q, if_neg (by omega)]
theorem own_store6 {x0 x1 x2 x3 x4 s6 : Slot} {u v : Int32} (hs : One s6) : storeLocals #[x0, x1, x2, x3, x4, .val (.int u), s6] 6 (.int v) = some #[x0, x1, x2, x3, x4, .val (.int u), .val (.int v)] := by
  rcases hs with rfl | ⟨q, rfl, hq⟩
  · rfl
  · cases q <;> first | rfl | (simp [Value.category] at hq)
theorem own_rtL {x : Int32} (h : 0 ≤ x.toInt) (h' : ¬ 255 < x.toInt) : nar .char (own_lo x &&& 255).toUInt32.toUInt16.toUInt32.toInt32 = x := by
  have a := c_i2b x
  have m := c_mask (own_lo x) 255 8 (by decide) (by decide)
  have e : ((2 ^ 8 : Nat) : Int) = 256 := rfl
  rw [e] at m
  have b := c_i2c (own_lo x &&& 255)
  have d := c_i2c (own_lo x &&& 255).toUInt32.toUInt16.toUInt32.toInt32
  show (own_lo x &&& 255).toUInt32.toUInt16.toUInt32.toInt32.toUInt32.toUInt16.toUInt32.toInt32 = _
  unfold own_lo at *
  rw [← Int32.toInt_inj]; omega
theorem own_rt {x : Int32} (h : 0 ≤ x.toInt ∧ x.toInt < 65536) : nar .char (((own_lo x &&& 255) <<< ((0 : Int32) &&& 31)) ||| ((own_hi x &&& 255) <<< ((8 : Int32) &&& 31))).toUInt32.toUInt16.toUInt32.toInt32 = x := by
  have a := c_i2b x
  have m := c_mask (own_lo x) 255 8 (by decide) (by decide)
  have sx := c_ishr x 8 8 (by decide)
  have a2 := c_i2b (x >>> ((8 : Int32) &&& 31))
  have m2 := c_mask (own_hi x) 255 8 (by decide) (by decide)
  have s0 := c_ishl (own_lo x &&& 255) 0 0 (by decide)
  have s8 := c_ishl (own_hi x &&& 255) 8 8 (by decide)
  have e8 : ((2 ^ 8 : Nat) : Int) = 256 := rfl
  have e0 : ((2 ^ 0 : Nat) : Int) = 1 := rfl
  rw [e8] at m m2 sx s8
  rw [e0] at s0
  have hlo : own_lo x = x.toInt8.toInt32 := rfl
  have hhi : own_hi x = (x >>> ((8 : Int32) &&& 31)).toInt8.toInt32 := rfl
  rw [← hlo] at a
  rw [← hhi] at a2
  show ((((own_lo x &&& 255) <<< ((0 : Int32) &&& 31)) ||| ((own_hi x &&& 255) <<< ((8 : Int32) &&& 31))).toUInt32.toUInt16.toUInt32.toInt32).toUInt32.toUInt16.toUInt32.toInt32 = x
  generalize (own_lo x &&& 255) <<< ((0 : Int32) &&& 31) = L at *
  generalize (own_hi x &&& 255) <<< ((8 : Int32) &&& 31) = H at *
  have rL := rng32 L
  have rH := rng32 H
  have o := c_or' L H 8 (by decide) 256 rfl (by omega) (by omega) (by omega)
  have rO := rng32 (L ||| H)
  have c1 := c_i2c (L ||| H)
  have c2 := c_i2c (L ||| H).toUInt32.toUInt16.toUInt32.toInt32
  rw [← Int32.toInt_inj]; omega
theorem own_ht0 : (∀ c ∈ "".toList, c.toNat < 256) ∧ "".toList.map (fun c => Value.int (Jvm.Lit.byteI c.toNat.toUInt16)) = ([] : List Value) := ⟨by simp, by simp⟩
theorem own_same {P : Prop} {i e : Int32} (hi : i = 1 ∧ P ∨ i = 0 ∧ ¬ P) (he : e = 1 ∧ P ∨ e = 0 ∧ ¬ P) : i = e := by
  rcases hi with ⟨rfl, a⟩ | ⟨rfl, a⟩ <;> rcases he with ⟨rfl, b⟩ | ⟨rfl, b⟩ <;> first | rfl | exact absurd a b | exact absurd b a
theorem own_is {P : Prop} {d : Int32} (hd : d = 1 ∧ P ∨ d = 0 ∧ ¬ P) (q : ¬ d = 0) : P := hd.elim (fun z => z.2) (fun z => absurd z.1 q)
theorem own_no {P : Prop} {d : Int32} (hd : d = 1 ∧ P ∨ d = 0 ∧ ¬ P) (q : d = 0) (p : P) : False := hd.elim (fun z => absurd (z.1.symm.trans q) (by decide)) (fun z => z.2 p)
theorem own_yes {cf : Nat → Int32} {n : Nat} {p c0 c1 c2 c3 d0 d1 d2 d3 : Int32} (ht : p = 4 ∧ n = 4 ∧ cf 0 = c0 ∧ cf 1 = c1 ∧ cf 2 = c2 ∧ cf 3 = c3 ∨ ¬ p = 4 ∧ ¬ n = 4) (q : p = 4) (h0 : d0 = 1 ∧ own_dig c0 ∨ d0 = 0 ∧ ¬ own_dig c0) (h1 : d1 = 1 ∧ own_dig c1 ∨ d1 = 0 ∧ ¬ own_dig c1) (h2 : d2 = 1 ∧ own_dig c2 ∨ d2 = 0 ∧ ¬ own_dig c2) (h3 : d3 = 1 ∧ own_dig c3 ∨ d3 = 0 ∧ ¬ own_dig c3) (q0 : ¬ d0 = 0) (q1 : ¬ d1 = 0) (q2 : ¬ d2 = 0) (q3 : ¬ d3 = 0) : n = 4 ∧ own_dig (cf 0) ∧ own_dig (cf 1) ∧ own_dig (cf 2) ∧ own_dig (cf 3) := by
  rcases ht with ⟨_, e, rfl, rfl, rfl, rfl⟩ | ⟨z, _⟩
  · exact ⟨e, own_is h0 q0, own_is h1 q1, own_is h2 q2, own_is h3 q3⟩
  · exact absurd q z
theorem own_steq {t : Term} {s : State} {args : Array Value} {v : Int32} (q : (Jvm.Cond.eq t (Term.int v)).value args s none s [] = some true) : t.eval args s none [] s = some (.int v) := by
  simp only [Jvm.Cond.value] at q
  cases hf : t.eval args s none [] s with
  | none => simp [hf] at q
  | some y => rw [hf] at q; cases y <;> simp [Term.eval] at q ⊢; exact q
def R_k5 : Room := ({ frames := 0, cells := 0, slots := 0, locals := 0 } : Room)
set_option maxRecDepth 65536 in
set_option maxHeartbeats 40000000 in
theorem own_k5 {l : Launch} {Z : State} {a0 : Array Value} (hw : ∀ d ∈ tables_1, d.before a0 Z = true) {w : Wk} {n0 : Nat} {h0 : Heap} {Y : State → Outcome → Prop} (s d : Addr) (n : Nat) (cf : Nat → Int32) (C : Cx w Z "java/lang/StringUTF16" jdk_52_method_21_code 7 (some .int) "compress" R_k5 n0 (fun v h => ∃ r : Nat, v = some (.int (Int32.ofNat r)) ∧ Keep h0 h [d] ∧ (r = n ∧ Arf Z h d "[B" .byte (Int32.ofNat n) (own_lat cf) ∧ (∀ j, j < n → ¬ 255 < (cf j).toInt) ∨ r < n ∧ 255 < (cf r).toInt)) Y) (h6 : n ≤ 6) (gd : n0 ≤ d) (ne_s_d : s ≠ d) :
    ∀ (m i : Nat) (h : Heap) (s6 : Slot), i + m = n → One s6 → Arf Z h s "[C" .char (Int32.ofNat n) (fun j => .int (cf j)) → Arf Z h d "[B" .byte (Int32.ofNat n) (own_lk cf i) → Keep h0 h [d] → (∀ j, j < i → ¬ 255 < (cf j).toInt) → Go w l R_k5 n0 Y h 0 0 3 #[.val (.ref s), .val (.int (Int32.ofNat i)), .val (.ref d), .val (.int (Int32.ofNat i)), .val (.int (Int32.ofNat n)), .val (.int (Int32.ofNat i)), s6] [] := by
  intro m
  induction m with
  | zero =>
    intro i h s6 hi hs A B K hL
    refine g_iload C d10_3 (pc' := 5) rfl rfl ?_
    refine g_iload C d10_5 (pc' := 7) rfl rfl ?_
    refine g_icmp_ge C d10_7 (by decide) (pc' := 44) (by decide) (pcN := 10) rfl (fun _ => ?_) (fun q => absurd q (n32_ge (i := i) (n := n) (by omega) (by omega)))
    refine g_iload C d10_44 (pc' := 46) rfl rfl ?_
    exact g_retI C rfl d10_46 ⟨n, rfl, K, Or.inl ⟨rfl, B.congr fun j hj => own_lk_all (by rw [n32_nat (by omega)] at hj; omega), fun j hj => hL j (by omega)⟩⟩ (by decide) (by decide)
  | succ m ih =>
    intro i h s6 hi hs A B K hL
    refine g_iload C d10_3 (pc' := 5) rfl rfl ?_
    refine g_iload C d10_5 (pc' := 7) rfl rfl ?_
    refine g_icmp_ge C d10_7 (by decide) (pc' := 44) (by decide) (pcN := 10) rfl (fun q => absurd (n32_lt (i := i) (n := n) (by omega) (by omega)) q) (fun _ => ?_)
    refine g_aloadN C d10_10 (pc' := 11) rfl rfl rfl ?_
    refine g_iloadN C d10_11 (pc' := 12) rfl rfl ?_
    refine g_caload C (v := (.int (cf i))) A (n32_nn (by omega)) (n32_lt (by omega) (by omega)) (by show Value.int (cf _) = _; rw [n32_nat (by omega)]) d10_12 (pc' := 13) rfl ?_
    refine g_istore C d10_13 (pc' := 15) rfl (Ls' := #[.val (.ref s), .val (.int (Int32.ofNat i)), .val (.ref d), .val (.int (Int32.ofNat i)), .val (.int (Int32.ofNat n)), .val (.int (Int32.ofNat i)), .val (.int (cf i))]) (own_store6 hs) ?_
    refine g_iload C d10_15 (pc' := 17) rfl rfl ?_
    refine g_sipush C (z := (255 : Int32)) d10_17 (pc' := 20) rfl rfl ?_
    refine g_icmp_le C d10_20 (by decide) (pc' := 26) (by decide) (pcN := 23) rfl (fun q20 => ?_) (fun q20 => ?_)
    · refine g_aloadN C d10_26 (pc' := 27) rfl rfl rfl ?_
      refine g_iloadN C d10_27 (pc' := 28) rfl rfl ?_
      refine g_iload C d10_28 (pc' := 30) rfl rfl ?_
      refine g_i2b C d10_30 (pc' := 31) rfl ?_
      refine g_bastore C B (n32_nn (by omega)) (n32_lt (by omega) (by omega)) d10_31 (pc' := 32) rfl gd (fun h1 W2 B' => ?_)
      have A := A.other W2 ne_s_d
      have K := K.wr W2 (Or.inl (by simp))
      have B : Arf Z h1 d "[B" .byte (Int32.ofNat n) (upd (own_lk cf i) (Int32.ofNat i).toNatClampNeg (.int (nar .byte ((cf i).toInt8.toInt32)))) := B'
      refine g_iinc C d10_32 (pc' := 35) rfl rfl (z := ((Int32.ofNat i) + (1 : Int32))) rfl (Ls' := #[.val (.ref s), .val (.int ((Int32.ofNat i) + (1 : Int32))), .val (.ref d), .val (.int (Int32.ofNat i)), .val (.int (Int32.ofNat n)), .val (.int (Int32.ofNat i)), .val (.int (cf i))]) rfl ?_
      refine g_iinc C d10_35 (pc' := 38) rfl rfl (z := ((Int32.ofNat i) + (1 : Int32))) rfl (Ls' := #[.val (.ref s), .val (.int ((Int32.ofNat i) + (1 : Int32))), .val (.ref d), .val (.int ((Int32.ofNat i) + (1 : Int32))), .val (.int (Int32.ofNat n)), .val (.int (Int32.ofNat i)), .val (.int (cf i))]) rfl ?_
      refine g_iinc C d10_38 (pc' := 41) rfl rfl (z := ((Int32.ofNat i) + (1 : Int32))) rfl (Ls' := #[.val (.ref s), .val (.int ((Int32.ofNat i) + (1 : Int32))), .val (.ref d), .val (.int ((Int32.ofNat i) + (1 : Int32))), .val (.int (Int32.ofNat n)), .val (.int ((Int32.ofNat i) + (1 : Int32))), .val (.int (cf i))]) rfl ?_
      refine g_goto C d10_41 (by decide) (pc' := 3) (by decide) ?_
      have hL' : ∀ j, j < i + 1 → ¬ 255 < (cf j).toInt := fun j hj => if e : j = i then (by subst e; exact fun a => q20 (Int32.lt_iff_toInt_lt.mpr a)) else hL j (by omega)
      exact by rw [n32_succ]; exact ih (i + 1) h1 _ (by omega) (One.val rfl) A (B.congr fun j hj => own_lks (by omega) j) K hL'
    · refine g_iload C d10_23 (pc' := 25) rfl rfl ?_
      exact g_retI C rfl d10_25 ⟨i, rfl, K, Or.inr ⟨by omega, Int32.lt_iff_toInt_lt.mp q20⟩⟩ (by decide) (by decide)
set_option maxRecDepth 65536 in
set_option maxHeartbeats 40000000 in
theorem k5 {l : Launch} {Z : State} {a0 : Array Value} (hw : ∀ d ∈ tables_1, d.before a0 Z = true) {h0 : Heap} {n0 : Nat} (s d : Addr) (n : Nat) (cf : Nat → Int32) (A : Arf Z h0 s "[C" .char (Int32.ofNat n) (fun j => .int (cf j))) (B : Arf Z h0 d "[B" .byte (Int32.ofNat n) (own_lk cf 0)) (h6 : n ≤ 6) (gd : n0 ≤ d) (ne_s_d : s ≠ d) :
    Met l Z (⟨"java/lang/StringUTF16", "compress", "([CI[BII)I"⟩ : MethodName) jdk_52_method_21_code 7 (some .int) R_k5 n0 h0 #[(.ref s), (.int (0 : Int32)), (.ref d), (.int (0 : Int32)), (.int (Int32.ofNat n))] (fun v h => ∃ r : Nat, v = some (.int (Int32.ofNat r)) ∧ Keep h0 h [d] ∧ (r = n ∧ Arf Z h d "[B" .byte (Int32.ofNat n) (own_lat cf) ∧ (∀ j, j < n → ¬ 255 < (cf j).toInt) ∨ r < n ∧ 255 < (cf r).toInt)) := by
  refine Met.intro (plainFor_of_name (by first | (simp [plainName, overriddenIn, x]; done) | decide +kernel)) (fun m => (show entryFrame m #[(.ref s), (.int (0 : Int32)), (.ref d), (.int (0 : Int32)), (.int (Int32.ofNat n))] 7 = mkF m 0 #[.val (.ref s), .val (.int (0 : Int32)), .val (.ref d), .val (.int (0 : Int32)), .val (.int (Int32.ofNat n)), .unset, .unset] [] from by first | rfl | (simp [entryFrame, mkF, argsToLocals, Value.category]; done))) (fun w Y C => ?_)
  refine g_iconst C (z := (0 : Int32)) d10_0 (pc' := 1) rfl rfl ?_
  refine g_istore C d10_1 (pc' := 3) rfl (Ls' := #[.val (.ref s), .val (.int (0 : Int32)), .val (.ref d), .val (.int (0 : Int32)), .val (.int (Int32.ofNat n)), .val (.int (0 : Int32)), .unset]) rfl ?_
  exact own_k5 (C := C) hw s d n cf h6 gd ne_s_d n 0 h0 .unset (by omega) One.u A B (Keep.refl h0 [d]) (fun j hj => absurd hj (Nat.not_lt_zero j))
def R_s_nbl : Room := ({ frames := 0, cells := 0, slots := 0, locals := 0 } : Room)
set_option maxRecDepth 65536 in
set_option maxHeartbeats 40000000 in
theorem s_nbl {l : Launch} {Z : State} {a0 : Array Value} (hw : ∀ d ∈ tables_1, d.before a0 Z = true) {h0 : Heap} {n0 : Nat} (n : Nat) (h6 : n ≤ 6) :
    Met l Z (⟨"java/lang/StringUTF16", "newBytesLength", "(I)I"⟩ : MethodName) jdk_52_method_3_code 1 (some .int) R_s_nbl n0 h0 #[(.int (Int32.ofNat n))] (fun r h => r = some (.int (Int32.ofNat (2 * n))) ∧ h0 = h) := by
  refine Met.intro (plainFor_of_name (by first | (simp [plainName, overriddenIn, x]; done) | decide +kernel)) (fun m => (show entryFrame m #[(.int (Int32.ofNat n))] 1 = mkF m 0 #[.val (.int (Int32.ofNat n))] [] from by first | rfl | (simp [entryFrame, mkF, argsToLocals, Value.category]; done))) (fun w Y C => ?_)
  refine g_iloadN C d14_0 (pc' := 1) rfl rfl ?_
  refine g_if_ge C d14_1 (by decide) (pc' := 12) (by decide) (pcN := 4) rfl (fun _ => ?_) (fun q => absurd q (n32_nn (by omega)))
  refine g_iloadN C d14_12 (pc' := 13) rfl rfl ?_
  refine g_ldcI C (hw _ (List.mem_of_getElem? (i := 68) rfl)) d14_13 (pc' := 15) rfl ?_
  refine g_icmp_lt C d14_15 (by decide) (pc' := 55) (by decide) (pcN := 18) rfl (fun _ => ?_) (fun q => absurd (own_ltB h6) q)
  refine g_iloadN C d14_55 (pc' := 56) rfl rfl ?_
  refine g_iconst C (z := (1 : Int32)) d14_56 (pc' := 57) rfl rfl ?_
  refine g_ishl C d14_57 (pc' := 58) rfl ?_
  exact g_retI C rfl d14_58 ⟨by rw [own_shl (by omega)], rfl⟩ (by decide) (by decide)
def R_s_nbf : Room := ({ frames := 1, cells := 1, slots := 12, locals := 12 } : Room)
set_option maxRecDepth 65536 in
set_option maxHeartbeats 40000000 in
theorem s_nbf {l : Launch} {Z : State} {a0 : Array Value} (hw : ∀ d ∈ tables_1, d.before a0 Z = true) {h0 : Heap} {n0 : Nat} (n : Nat) (h6 : n ≤ 6) :
    Met l Z (⟨"java/lang/StringUTF16", "newBytesFor", "(I)[B"⟩ : MethodName) jdk_52_method_2_code 1 (some (.array .byte)) R_s_nbf n0 h0 #[(.int (Int32.ofNat n))] (fun r h => ∃ b : Addr, r = some (.ref b) ∧ h0.size ≤ b ∧ n0 ≤ b ∧ Keep h0 h [] ∧ Arf Z h b "[B" .byte (Int32.ofNat (2 * n)) (fun _ => .int 0)) := by
  refine Met.intro (plainFor_of_name (by first | (simp [plainName, overriddenIn, x]; done) | decide +kernel)) (fun m => (show entryFrame m #[(.int (Int32.ofNat n))] 1 = mkF m 0 #[.val (.int (Int32.ofNat n))] [] from by first | rfl | (simp [entryFrame, mkF, argsToLocals, Value.category]; done))) (fun w Y C => ?_)
  have K := Keep.refl h0 []
  refine g_iloadN C d13_0 (pc' := 1) rfl rfl ?_
  refine g_static (rm := R_s_nbl) C (y := (⟨"java/lang/StringUTF16", "newBytesLength", "(I)I"⟩ : MethodName)) (hw _ (List.mem_of_getElem? (i := 65) rfl)) (hw _ (List.mem_of_getElem? (i := 66) rfl)) (hw _ (List.mem_of_getElem? (i := 51) rfl)) (hw _ (List.mem_of_getElem? (i := 67) rfl)) (by decide) d13_1 (pc' := 4) rfl (argsL := [(.int (Int32.ofNat n))]) (rest := []) (lenOf pd_0 rfl) rfl (W := 0) (Nat.le_of_eq rfl) rfl (fun hn => Met.back (rm := R_s_nbl) (s_nbl hw n h6) hn C.hZ (hw _ (List.mem_of_getElem? (i := 67) rfl)) (hw _ (List.mem_of_getElem? (i := 51) rfl)) (by decide) (by decide)) (k' := 0) (n' := 0) rfl rfl (by decide) (by decide) ?_
  rintro _ _ ⟨rfl, rfl⟩
  show Go w l _ n0 _ h0 0 0 4 #[.val (.int (Int32.ofNat n))] [(.int (Int32.ofNat (2 * n)))]
  refine g_newarr C (ad := "[B") (cap := 12) (hw _ (List.mem_of_getElem? (i := 23) rfl)) d13_4 (pc' := 6) rfl rfl (n32_nn (by omega)) (by rw [n32_nat (by omega)]; omega) (by decide) (k' := 1) (n' := 12) rfl rfl (by decide) (by decide) rfl ?_
  intro h3 b3 E3 fb3 gb3 A3
  have sz_b3 : h0.size ≤ b3 := Nat.le_trans K.1 fb3
  have K := K.ext E3
  have A3 : Arf Z h3 b3 "[B" .byte (Int32.ofNat (2 * n)) (fun _ => (.int 0)) := A3
  exact g_retA C rfl (t := (.array .byte)) rfl rfl d13_6 ⟨b3, rfl, sz_b3, gb3, K, A3⟩ (by decide) (by decide)
def R_s_put : Room := ({ frames := 0, cells := 0, slots := 0, locals := 0 } : Room)
set_option maxRecDepth 65536 in
set_option maxHeartbeats 40000000 in
theorem s_put {l : Launch} {Z : State} {a0 : Array Value} (hw : ∀ d ∈ tables_1, d.before a0 Z = true) {h0 : Heap} {n0 : Nat} (t : Addr) (n i : Nat) (f : Nat → Value) (p : Int32) (A : Arf Z h0 t "[B" .byte (Int32.ofNat (2 * n)) f) (hi : i < n) (h6 : n ≤ 6) (gt : n0 ≤ t) (OA : Sta Z Z.heap "java/lang/StringUTF16" "$assertionsDisabled" "Z" (.int 1)) (OH : Sta Z Z.heap "java/lang/StringUTF16" "HI_BYTE_SHIFT" "I" (.int 0)) (OL : Sta Z Z.heap "java/lang/StringUTF16" "LO_BYTE_SHIFT" "I" (.int 8)) (X : Old Z n0 h0) :
    Met l Z (⟨"java/lang/StringUTF16", "putChar", "([BII)V"⟩ : MethodName) jdk_52_method_4_code 3 none R_s_put n0 h0 #[(.ref t), (.int (Int32.ofNat i)), (.int p)] (fun v h => v = none ∧ Keep h0 h [t] ∧ Arf Z h t "[B" .byte (Int32.ofNat (2 * n)) (upd (upd f (2 * i) (.int (own_lo p))) (2 * i + 1) (.int (own_hi p)))) := by
  refine Met.intro (plainFor_of_name (by first | (simp [plainName, overriddenIn, x]; done) | decide +kernel)) (fun m => (show entryFrame m #[(.ref t), (.int (Int32.ofNat i)), (.int p)] 3 = mkF m 0 #[.val (.ref t), .val (.int (Int32.ofNat i)), .val (.int p)] [] from by first | rfl | (simp [entryFrame, mkF, argsToLocals, Value.category]; done))) (fun w Y C => ?_)
  have K := Keep.refl h0 [t]
  refine g_getS (host := "") C (Or.inl (hw _ (List.mem_of_getElem? (i := 72) rfl))) Via.refl (OA.ext X.2) d15_0 (pc' := 3) rfl ?_
  refine g_if_ne C d15_3 (by decide) (pc' := 28) (by decide) (pcN := 6) rfl (fun _ => ?_) (fun q => absurd q (by decide))
  refine g_iloadN C d15_28 (pc' := 29) rfl rfl ?_
  refine g_iconst C (z := (1 : Int32)) d15_29 (pc' := 30) rfl rfl ?_
  refine g_ishl C d15_30 (pc' := 31) rfl ?_
  rw [own_shl (by omega)]
  show Go w l _ n0 _ h0 0 0 31 #[.val (.ref t), .val (.int (Int32.ofNat i)), .val (.int p)] [(.int (Int32.ofNat (2 * i)))]
  refine g_istoreN C d15_31 (pc' := 32) rfl (Ls' := #[.val (.ref t), .val (.int (Int32.ofNat (2 * i))), .val (.int p)]) rfl ?_
  refine g_aloadN C d15_32 (pc' := 33) rfl rfl rfl ?_
  refine g_iloadN C d15_33 (pc' := 34) rfl rfl ?_
  refine g_iinc C d15_34 (pc' := 37) rfl rfl (z := ((Int32.ofNat (2 * i)) + (1 : Int32))) rfl (Ls' := #[.val (.ref t), .val (.int ((Int32.ofNat (2 * i)) + (1 : Int32))), .val (.int p)]) rfl ?_
  rw [n32_succ]
  show Go w l _ n0 _ h0 0 0 37 #[.val (.ref t), .val (.int (Int32.ofNat (2 * i + 1))), .val (.int p)] [(.int (Int32.ofNat (2 * i))), (.ref t)]
  refine g_iloadN C d15_37 (pc' := 38) rfl rfl ?_
  refine g_getS (host := "") C (Or.inl (hw _ (List.mem_of_getElem? (i := 73) rfl))) Via.refl (OH.ext X.2) d15_38 (pc' := 41) rfl ?_
  refine g_ishr C d15_41 (pc' := 42) rfl ?_
  refine g_i2b C d15_42 (pc' := 43) rfl ?_
  refine g_bastore C A (n32_nn (by omega)) (n32_lt (by omega) (by omega)) d15_43 (pc' := 44) rfl gt (fun h4 W5 A' => ?_)
  have K := K.wr W5 (Or.inl (by simp))
  have X := X.wr W5 gt
  have A : Arf Z h4 t "[B" .byte (Int32.ofNat (2 * n)) (upd f (Int32.ofNat (2 * i)).toNatClampNeg (.int (nar .byte ((p >>> ((0 : Int32) &&& 31)).toInt8.toInt32)))) := A'
  refine g_aloadN C d15_44 (pc' := 45) rfl rfl rfl ?_
  refine g_iloadN C d15_45 (pc' := 46) rfl rfl ?_
  refine g_iloadN C d15_46 (pc' := 47) rfl rfl ?_
  refine g_getS (host := "") C (Or.inl (hw _ (List.mem_of_getElem? (i := 74) rfl))) Via.refl (OL.ext X.2) d15_47 (pc' := 50) rfl ?_
  refine g_ishr C d15_50 (pc' := 51) rfl ?_
  refine g_i2b C d15_51 (pc' := 52) rfl ?_
  refine g_bastore C A (n32_nn (by omega)) (n32_lt (by omega) (by omega)) d15_52 (pc' := 53) rfl gt (fun h6 W7 A' => ?_)
  have K := K.wr W7 (Or.inl (by simp))
  have X := X.wr W7 gt
  have A : Arf Z h6 t "[B" .byte (Int32.ofNat (2 * n)) (upd (upd f (Int32.ofNat (2 * i)).toNatClampNeg (.int (nar .byte ((p >>> ((0 : Int32) &&& 31)).toInt8.toInt32)))) (Int32.ofNat (2 * i + 1)).toNatClampNeg (.int (nar .byte ((p >>> ((8 : Int32) &&& 31)).toInt8.toInt32)))) := A'
  exact g_ret C rfl d15_53 ⟨rfl, K, A.congr fun j _ => own_pc (by omega) j⟩ (by decide) (by decide)
def R_s_getc : Room := ({ frames := 0, cells := 0, slots := 0, locals := 0 } : Room)
set_option maxRecDepth 65536 in
set_option maxHeartbeats 40000000 in
theorem s_getc {l : Launch} {Z : State} {a0 : Array Value} (hw : ∀ d ∈ tables_1, d.before a0 Z = true) {h0 : Heap} {n0 : Nat} (t : Addr) (n i : Nat) (cf : Nat → Int32) (A : Arw Z h0 t .byte (Int32.ofNat (2 * n)) (own_utf cf)) (hi : i < n) (h6 : n ≤ 6) (hc : ∀ j, j < n → 0 ≤ (cf j).toInt ∧ (cf j).toInt < 65536) (OA : Sta Z Z.heap "java/lang/StringUTF16" "$assertionsDisabled" "Z" (.int 1)) (OH : Sta Z Z.heap "java/lang/StringUTF16" "HI_BYTE_SHIFT" "I" (.int 0)) (OL : Sta Z Z.heap "java/lang/StringUTF16" "LO_BYTE_SHIFT" "I" (.int 8)) (X : Old Z n0 h0) :
    Met l Z (⟨"java/lang/StringUTF16", "getChar", "([BI)C"⟩ : MethodName) jdk_52_method_5_code 2 (some .char) R_s_getc n0 h0 #[(.ref t), (.int (Int32.ofNat i))] (fun r h => r = some (.int (cf i)) ∧ h0 = h) := by
  refine Met.intro (plainFor_of_name (by first | (simp [plainName, overriddenIn, x]; done) | decide +kernel)) (fun m => (show entryFrame m #[(.ref t), (.int (Int32.ofNat i))] 2 = mkF m 0 #[.val (.ref t), .val (.int (Int32.ofNat i))] [] from by first | rfl | (simp [entryFrame, mkF, argsToLocals, Value.category]; done))) (fun w Y C => ?_)
  refine g_getS (host := "") C (Or.inl (hw _ (List.mem_of_getElem? (i := 72) rfl))) Via.refl (OA.ext X.2) d16_0 (pc' := 3) rfl ?_
  refine g_if_ne C d16_3 (by decide) (pc' := 28) (by decide) (pcN := 6) rfl (fun _ => ?_) (fun q => absurd q (by decide))
  refine g_iloadN C d16_28 (pc' := 29) rfl rfl ?_
  refine g_iconst C (z := (1 : Int32)) d16_29 (pc' := 30) rfl rfl ?_
  refine g_ishl C d16_30 (pc' := 31) rfl ?_
  rw [own_shl (by omega)]
  show Go w l _ n0 _ h0 0 0 31 #[.val (.ref t), .val (.int (Int32.ofNat i))] [(.int (Int32.ofNat (2 * i)))]
  refine g_istoreN C d16_31 (pc' := 32) rfl (Ls' := #[.val (.ref t), .val (.int (Int32.ofNat (2 * i)))]) rfl ?_
  refine g_aloadN C d16_32 (pc' := 33) rfl rfl rfl ?_
  refine g_iloadN C d16_33 (pc' := 34) rfl rfl ?_
  refine g_iinc C d16_34 (pc' := 37) rfl rfl (z := ((Int32.ofNat (2 * i)) + (1 : Int32))) rfl (Ls' := #[.val (.ref t), .val (.int ((Int32.ofNat (2 * i)) + (1 : Int32)))]) rfl ?_
  rw [n32_succ]
  show Go w l _ n0 _ h0 0 0 37 #[.val (.ref t), .val (.int (Int32.ofNat (2 * i + 1)))] [(.int (Int32.ofNat (2 * i))), (.ref t)]
  refine g_baloadW C (v := (.int (own_lo (cf i)))) A (n32_nn (by omega)) (n32_lt (by omega) (by omega)) (own_u0 (by omega)) d16_37 (pc' := 38) rfl ?_
  refine g_sipush C (z := (255 : Int32)) d16_38 (pc' := 41) rfl rfl ?_
  refine g_iand C d16_41 (pc' := 42) rfl ?_
  refine g_getS (host := "") C (Or.inl (hw _ (List.mem_of_getElem? (i := 73) rfl))) Via.refl (OH.ext X.2) d16_42 (pc' := 45) rfl ?_
  refine g_ishl C d16_45 (pc' := 46) rfl ?_
  refine g_aloadN C d16_46 (pc' := 47) rfl rfl rfl ?_
  refine g_iloadN C d16_47 (pc' := 48) rfl rfl ?_
  refine g_baloadW C (v := (.int (own_hi (cf i)))) A (n32_nn (by omega)) (n32_lt (by omega) (by omega)) (own_u1 (by omega)) d16_48 (pc' := 49) rfl ?_
  refine g_sipush C (z := (255 : Int32)) d16_49 (pc' := 52) rfl rfl ?_
  refine g_iand C d16_52 (pc' := 53) rfl ?_
  refine g_getS (host := "") C (Or.inl (hw _ (List.mem_of_getElem? (i := 74) rfl))) Via.refl (OL.ext X.2) d16_53 (pc' := 56) rfl ?_
  refine g_ishl C d16_56 (pc' := 57) rfl ?_
  refine g_ior C d16_57 (pc' := 58) rfl ?_
  refine g_i2c C d16_58 (pc' := 59) rfl ?_
  exact g_retN C (t := .char) rfl (by simp) d16_59 ⟨by rw [own_rt (hc i hi)], rfl⟩ (by decide) (by decide)
def R_s_ulen : Room := ({ frames := 0, cells := 0, slots := 0, locals := 0 } : Room)
set_option maxRecDepth 65536 in
set_option maxHeartbeats 40000000 in
theorem s_ulen {l : Launch} {Z : State} {a0 : Array Value} (hw : ∀ d ∈ tables_1, d.before a0 Z = true) {h0 : Heap} {n0 : Nat} (t : Addr) (n : Nat) (cf : Nat → Int32) (A : Arw Z h0 t .byte (Int32.ofNat (2 * n)) (own_utf cf)) (h6 : n ≤ 6) :
    Met l Z (⟨"java/lang/StringUTF16", "length", "([B)I"⟩ : MethodName) jdk_52_method_6_code 1 (some .int) R_s_ulen n0 h0 #[(.ref t)] (fun r h => r = some (.int (Int32.ofNat n)) ∧ h0 = h) := by
  refine Met.intro (plainFor_of_name (by first | (simp [plainName, overriddenIn, x]; done) | decide +kernel)) (fun m => (show entryFrame m #[(.ref t)] 1 = mkF m 0 #[.val (.ref t)] [] from by first | rfl | (simp [entryFrame, mkF, argsToLocals, Value.category]; done))) (fun w Y C => ?_)
  refine g_aloadN C d22_0 (pc' := 1) rfl rfl rfl ?_
  refine g_lenW C A d22_1 (pc' := 2) rfl ?_
  refine g_iconst C (z := (1 : Int32)) d22_2 (pc' := 3) rfl rfl ?_
  refine g_ishr C d22_3 (pc' := 4) rfl ?_
  exact g_retI C rfl d22_4 ⟨by rw [own_shr (by omega)], rfl⟩ (by decide) (by decide)
def R_tb : Room := ({ frames := 2, cells := 1, slots := 12, locals := 24 } : Room)
set_option maxRecDepth 65536 in
set_option maxHeartbeats 40000000 in
theorem own_tb {l : Launch} {Z : State} {a0 : Array Value} (hw : ∀ d ∈ tables_1, d.before a0 Z = true) {w : Wk} {n0 : Nat} {h0 : Heap} {Y : State → Outcome → Prop} (s t : Addr) (n : Nat) (cf : Nat → Int32) (C : Cx w Z "java/lang/StringUTF16" jdk_52_method_14_code 5 (some (.array .byte)) "toBytes" R_tb n0 (fun v h => ∃ t : Addr, v = some (.ref t) ∧ h0.size ≤ t ∧ n0 ≤ t ∧ Keep h0 h [] ∧ Arf Z h t "[B" .byte (Int32.ofNat (2 * n)) (own_utf cf)) Y) (h6 : n ≤ 6) (gt : n0 ≤ t) (szt : h0.size ≤ t) (ne_s_t : s ≠ t) (OA : Sta Z Z.heap "java/lang/StringUTF16" "$assertionsDisabled" "Z" (.int 1)) (OH : Sta Z Z.heap "java/lang/StringUTF16" "HI_BYTE_SHIFT" "I" (.int 0)) (OL : Sta Z Z.heap "java/lang/StringUTF16" "LO_BYTE_SHIFT" "I" (.int 8)) :
    ∀ (m i : Nat) (h : Heap), i + m = n → Arf Z h s "[C" .char (Int32.ofNat n) (fun j => .int (cf j)) → Arf Z h t "[B" .byte (Int32.ofNat (2 * n)) (own_uk cf i) → Keep h0 h [] → Old Z n0 h → Go w l R_tb n0 Y h 1 12 8 #[.val (.ref s), .val (.int (Int32.ofNat i)), .val (.int (Int32.ofNat n)), .val (.ref t), .val (.int (Int32.ofNat i))] [] := by
  intro m
  induction m with
  | zero =>
    intro i h hi A B K X
    refine g_iload C d12_8 (pc' := 10) rfl rfl ?_
    refine g_iloadN C d12_10 (pc' := 11) rfl rfl ?_
    refine g_icmp_ge C d12_11 (by decide) (pc' := 32) (by decide) (pcN := 14) rfl (fun _ => ?_) (fun q => absurd q (n32_ge (i := i) (n := n) (by omega) (by omega)))
    refine g_aloadN C d12_32 (pc' := 33) rfl rfl rfl ?_
    exact g_retA C rfl (t := (.array .byte)) rfl rfl d12_33 ⟨t, rfl, szt, gt, K, B.congr fun j hj => own_uk_all (by rw [n32_nat (by omega)] at hj; omega)⟩ (by decide) (by decide)
  | succ m ih =>
    intro i h hi A B K X
    refine g_iload C d12_8 (pc' := 10) rfl rfl ?_
    refine g_iloadN C d12_10 (pc' := 11) rfl rfl ?_
    refine g_icmp_ge C d12_11 (by decide) (pc' := 32) (by decide) (pcN := 14) rfl (fun q => absurd (n32_lt (i := i) (n := n) (by omega) (by omega)) q) (fun _ => ?_)
    refine g_aloadN C d12_14 (pc' := 15) rfl rfl rfl ?_
    refine g_iload C d12_15 (pc' := 17) rfl rfl ?_
    refine g_aloadN C d12_17 (pc' := 18) rfl rfl rfl ?_
    refine g_iloadN C d12_18 (pc' := 19) rfl rfl ?_
    refine g_caload C (v := (.int (cf i))) A (n32_nn (by omega)) (n32_lt (by omega) (by omega)) (by show Value.int (cf _) = _; rw [n32_nat (by omega)]) d12_19 (pc' := 20) rfl ?_
    refine g_static (rm := R_s_put) C (y := (⟨"java/lang/StringUTF16", "putChar", "([BII)V"⟩ : MethodName)) (hw _ (List.mem_of_getElem? (i := 69) rfl)) (hw _ (List.mem_of_getElem? (i := 70) rfl)) (hw _ (List.mem_of_getElem? (i := 51) rfl)) (hw _ (List.mem_of_getElem? (i := 71) rfl)) (by decide) d12_20 (pc' := 23) rfl (argsL := [(.ref t), (.int (Int32.ofNat i)), (.int (cf i))]) (rest := []) (lenOf pd_1 rfl) rfl (W := 0) (Nat.le_of_eq rfl) rfl (fun hn => Met.back (rm := R_s_put) (s_put hw t n i (own_uk cf i) (cf i) B (by omega) h6 gt OA OH OL X) hn C.hZ (hw _ (List.mem_of_getElem? (i := 71) rfl)) (hw _ (List.mem_of_getElem? (i := 51) rfl)) (by decide) (by decide)) (k' := 1) (n' := 12) rfl rfl (by decide) (by decide) ?_
    rintro _ h8 ⟨rfl, Kp, B⟩
    have A := A.keep Kp (ninS ne_s_t nin0)
    have K := K.trans Kp (allS (Or.inr szt) all0)
    have X := X.keep Kp (allS gt all0)
    show Go w l _ n0 _ h8 1 12 23 #[.val (.ref s), .val (.int (Int32.ofNat i)), .val (.int (Int32.ofNat n)), .val (.ref t), .val (.int (Int32.ofNat i))] []
    refine g_iinc C d12_23 (pc' := 26) rfl rfl (z := ((Int32.ofNat i) + (1 : Int32))) rfl (Ls' := #[.val (.ref s), .val (.int ((Int32.ofNat i) + (1 : Int32))), .val (.int (Int32.ofNat n)), .val (.ref t), .val (.int (Int32.ofNat i))]) rfl ?_
    refine g_iinc C d12_26 (pc' := 29) rfl rfl (z := ((Int32.ofNat i) + (1 : Int32))) rfl (Ls' := #[.val (.ref s), .val (.int ((Int32.ofNat i) + (1 : Int32))), .val (.int (Int32.ofNat n)), .val (.ref t), .val (.int ((Int32.ofNat i) + (1 : Int32)))]) rfl ?_
    refine g_goto C d12_29 (by decide) (pc' := 8) (by decide) ?_
    exact by rw [n32_succ]; exact ih (i + 1) h8 (by omega) A (B.congr fun j hj => own_uks (by omega) j) K X
set_option maxRecDepth 65536 in
set_option maxHeartbeats 40000000 in
theorem tb {l : Launch} {Z : State} {a0 : Array Value} (hw : ∀ d ∈ tables_1, d.before a0 Z = true) {h0 : Heap} {n0 : Nat} (s : Addr) (n : Nat) (cf : Nat → Int32) (A : Arf Z h0 s "[C" .char (Int32.ofNat n) (fun j => .int (cf j))) (h6 : n ≤ 6) (OA : Sta Z Z.heap "java/lang/StringUTF16" "$assertionsDisabled" "Z" (.int 1)) (OH : Sta Z Z.heap "java/lang/StringUTF16" "HI_BYTE_SHIFT" "I" (.int 0)) (OL : Sta Z Z.heap "java/lang/StringUTF16" "LO_BYTE_SHIFT" "I" (.int 8)) (X : Old Z n0 h0) :
    Met l Z (⟨"java/lang/StringUTF16", "toBytes", "([CII)[B"⟩ : MethodName) jdk_52_method_14_code 5 (some (.array .byte)) R_tb n0 h0 #[(.ref s), (.int (0 : Int32)), (.int (Int32.ofNat n))] (fun v h => ∃ t : Addr, v = some (.ref t) ∧ h0.size ≤ t ∧ n0 ≤ t ∧ Keep h0 h [] ∧ Arf Z h t "[B" .byte (Int32.ofNat (2 * n)) (own_utf cf)) := by
  refine Met.intro (plainFor_of_name (by first | (simp [plainName, overriddenIn, x]; done) | decide +kernel)) (fun m => (show entryFrame m #[(.ref s), (.int (0 : Int32)), (.int (Int32.ofNat n))] 5 = mkF m 0 #[.val (.ref s), .val (.int (0 : Int32)), .val (.int (Int32.ofNat n)), .unset, .unset] [] from by first | rfl | (simp [entryFrame, mkF, argsToLocals, Value.category]; done))) (fun w Y C => ?_)
  have K := Keep.refl h0 []
  refine g_iloadN C d12_0 (pc' := 1) rfl rfl ?_
  refine g_static (rm := R_s_nbf) C (y := (⟨"java/lang/StringUTF16", "newBytesFor", "(I)[B"⟩ : MethodName)) (hw _ (List.mem_of_getElem? (i := 62) rfl)) (hw _ (List.mem_of_getElem? (i := 63) rfl)) (hw _ (List.mem_of_getElem? (i := 51) rfl)) (hw _ (List.mem_of_getElem? (i := 64) rfl)) (by decide) d12_1 (pc' := 4) rfl (argsL := [(.int (Int32.ofNat n))]) (rest := []) (lenOf pd_2 rfl) rfl (W := 0) (Nat.le_of_eq rfl) rfl (fun hn => Met.back (rm := R_s_nbf) (s_nbf hw n h6) hn C.hZ (hw _ (List.mem_of_getElem? (i := 64) rfl)) (hw _ (List.mem_of_getElem? (i := 51) rfl)) (by decide) (by decide)) (k' := 1) (n' := 12) rfl rfl (by decide) (by decide) ?_
  rintro _ h9 ⟨t, rfl, szt, gt, Kt, B⟩
  have ne_s_t : s ≠ t := Nat.ne_of_lt (Nat.lt_of_lt_of_le A.lt szt)
  have sz_t : h0.size ≤ t := Nat.le_trans K.1 szt
  have A := A.keep Kt nin0
  have X := X.keep Kt all0
  have K := K.trans Kt (by intro x hx; simp at hx)
  show Go w l _ n0 _ h9 1 12 4 #[.val (.ref s), .val (.int (0 : Int32)), .val (.int (Int32.ofNat n)), .unset, .unset] [(.ref t)]
  refine g_astoreN C d12_4 (pc' := 5) rfl rfl (Ls' := #[.val (.ref s), .val (.int (0 : Int32)), .val (.int (Int32.ofNat n)), .val (.ref t), .unset]) rfl ?_
  refine g_iconst C (z := (0 : Int32)) d12_5 (pc' := 6) rfl rfl ?_
  refine g_istore C d12_6 (pc' := 8) rfl (Ls' := #[.val (.ref s), .val (.int (0 : Int32)), .val (.int (Int32.ofNat n)), .val (.ref t), .val (.int (0 : Int32))]) rfl ?_
  exact own_tb (C := C) hw s t n cf h6 gt szt ne_s_t OA OH OL n 0 h9 (by omega) A (B.congr fun j _ => own_uk0 j) K X
def R_k3L : Room := ({ frames := 1, cells := 1, slots := 6, locals := 18 } : Room)
set_option maxRecDepth 65536 in
set_option maxHeartbeats 40000000 in
theorem k3L {l : Launch} {Z : State} {a0 : Array Value} (hw : ∀ d ∈ tables_1, d.before a0 Z = true) {h0 : Heap} {n0 : Nat} (s : Addr) (n : Nat) (cf : Nat → Int32) (A : Arf Z h0 s "[C" .char (Int32.ofNat n) (fun j => .int (cf j))) (h6 : n ≤ 6) (hL : ∀ j, j < n → ¬ 255 < (cf j).toInt) (OA : Sta Z Z.heap "java/lang/StringUTF16" "$assertionsDisabled" "Z" (.int 1)) (OH : Sta Z Z.heap "java/lang/StringUTF16" "HI_BYTE_SHIFT" "I" (.int 0)) (OL : Sta Z Z.heap "java/lang/StringUTF16" "LO_BYTE_SHIFT" "I" (.int 8)) (X : Old Z n0 h0) :
    Met l Z (⟨"java/lang/StringUTF16", "compress", "([CII)[B"⟩ : MethodName) jdk_52_method_16_code 6 (some (.array .byte)) R_k3L n0 h0 #[(.ref s), (.int (0 : Int32)), (.int (Int32.ofNat n))] (fun v h => ∃ b : Addr, v = some (.ref b) ∧ h0.size ≤ b ∧ n0 ≤ b ∧ Keep h0 h [] ∧ Arf Z h b "[B" .byte (Int32.ofNat n) (own_lat cf)) := by
  refine Met.intro (plainFor_of_name (by first | (simp [plainName, overriddenIn, x]; done) | decide +kernel)) (fun m => (show entryFrame m #[(.ref s), (.int (0 : Int32)), (.int (Int32.ofNat n))] 6 = mkF m 0 #[.val (.ref s), .val (.int (0 : Int32)), .val (.int (Int32.ofNat n)), .unset, .unset, .unset] [] from by first | rfl | (simp [entryFrame, mkF, argsToLocals, Value.category]; done))) (fun w Y C => ?_)
  have K := Keep.refl h0 []
  refine g_iloadN C d9_0 (pc' := 1) rfl rfl ?_
  refine g_newarr C (ad := "[B") (cap := 6) (hw _ (List.mem_of_getElem? (i := 23) rfl)) d9_1 (pc' := 3) rfl rfl (n32_nn (by omega)) (by rw [n32_nat (by omega)]; omega) (by decide) (k' := 1) (n' := 6) rfl rfl (by decide) (by decide) rfl ?_
  intro h10 b10 E10 fb10 gb10 A10
  have ne_s_b10 : s ≠ b10 := Nat.ne_of_lt (Nat.lt_of_lt_of_le A.lt fb10)
  have sz_b10 : h0.size ≤ b10 := Nat.le_trans K.1 fb10
  have A := A.ext E10
  have X := X.ext E10
  have K := K.ext E10
  have A10 : Arf Z h10 b10 "[B" .byte (Int32.ofNat n) (fun _ => (.int 0)) := A10
  refine g_astoreN C d9_3 (pc' := 4) rfl rfl (Ls' := #[.val (.ref s), .val (.int (0 : Int32)), .val (.int (Int32.ofNat n)), .val (.ref b10), .unset, .unset]) rfl ?_
  refine g_aloadN C d9_4 (pc' := 5) rfl rfl rfl ?_
  refine g_iloadN C d9_5 (pc' := 6) rfl rfl ?_
  refine g_aloadN C d9_6 (pc' := 7) rfl rfl rfl ?_
  refine g_iconst C (z := (0 : Int32)) d9_7 (pc' := 8) rfl rfl ?_
  refine g_iloadN C d9_8 (pc' := 9) rfl rfl ?_
  refine g_static (rm := R_k5) C (y := (⟨"java/lang/StringUTF16", "compress", "([CI[BII)I"⟩ : MethodName)) (hw _ (List.mem_of_getElem? (i := 53) rfl)) (hw _ (List.mem_of_getElem? (i := 54) rfl)) (hw _ (List.mem_of_getElem? (i := 51) rfl)) (hw _ (List.mem_of_getElem? (i := 55) rfl)) (by decide) d9_9 (pc' := 12) rfl (argsL := [(.ref s), (.int (0 : Int32)), (.ref b10), (.int (0 : Int32)), (.int (Int32.ofNat n))]) (rest := []) (lenOf pd_3 rfl) rfl (W := 0) (Nat.le_of_eq rfl) rfl (fun hn => Met.back (rm := R_k5) (k5 hw s b10 n cf A (A10.congr fun j _ => own_lk0 j) h6 gb10 ne_s_b10) hn C.hZ (hw _ (List.mem_of_getElem? (i := 55) rfl)) (hw _ (List.mem_of_getElem? (i := 51) rfl)) (by decide) (by decide)) (k' := 1) (n' := 6) rfl rfl (by decide) (by decide) ?_
  rintro _ h11 ⟨r, rfl, Kk, hr⟩
  have A := A.keep Kk (ninS ne_s_b10 nin0)
  have X := X.keep Kk (allS gb10 all0)
  have K := K.trans Kk (allS (Or.inr sz_b10) all0)
  show Go w l _ n0 _ h11 1 6 12 #[.val (.ref s), .val (.int (0 : Int32)), .val (.int (Int32.ofNat n)), .val (.ref b10), .unset, .unset] [(.int (Int32.ofNat r))]
  refine g_istore C d9_12 (pc' := 14) rfl (Ls' := #[.val (.ref s), .val (.int (0 : Int32)), .val (.int (Int32.ofNat n)), .val (.ref b10), .val (.int (Int32.ofNat r)), .unset]) rfl ?_
  refine g_iload C d9_14 (pc' := 16) rfl rfl ?_
  refine g_iloadN C d9_16 (pc' := 17) rfl rfl ?_
  refine g_icmp_eq C d9_17 (by decide) (pc' := 57) (by decide) (pcN := 20) rfl (fun _ => ?_) (fun q => absurd (hr.elim (fun z => by rw [z.1]) (fun z => absurd z.2 (hL r z.1))) q)
  refine g_aloadN C d9_57 (pc' := 58) rfl rfl rfl ?_
  exact g_retA C rfl (t := (.array .byte)) rfl rfl d9_58 ⟨b10, rfl, sz_b10, gb10, K, hr.elim (fun z => z.2.1) (fun z => absurd z.2 (hL r z.1))⟩ (by decide) (by decide)
def R_k3U : Room := ({ frames := 3, cells := 2, slots := 18, locals := 40 } : Room)
set_option maxRecDepth 65536 in
set_option maxHeartbeats 40000000 in
theorem k3U {l : Launch} {Z : State} {a0 : Array Value} (hw : ∀ d ∈ tables_1, d.before a0 Z = true) {h0 : Heap} {n0 : Nat} (s : Addr) (n : Nat) (cf : Nat → Int32) (A : Arf Z h0 s "[C" .char (Int32.ofNat n) (fun j => .int (cf j))) (h6 : n ≤ 6) (hU : ¬ ∀ j, j < n → ¬ 255 < (cf j).toInt) (hc : ∀ j, j < n → 0 ≤ (cf j).toInt ∧ (cf j).toInt < 65536) (OA : Sta Z Z.heap "java/lang/StringUTF16" "$assertionsDisabled" "Z" (.int 1)) (OH : Sta Z Z.heap "java/lang/StringUTF16" "HI_BYTE_SHIFT" "I" (.int 0)) (OL : Sta Z Z.heap "java/lang/StringUTF16" "LO_BYTE_SHIFT" "I" (.int 8)) (X : Old Z n0 h0) :
    Met l Z (⟨"java/lang/StringUTF16", "compress", "([CII)[B"⟩ : MethodName) jdk_52_method_16_code 6 (some (.array .byte)) R_k3U n0 h0 #[(.ref s), (.int (0 : Int32)), (.int (Int32.ofNat n))] (fun v h => ∃ b : Addr, v = some (.ref b) ∧ h0.size ≤ b ∧ n0 ≤ b ∧ Keep h0 h [] ∧ Arf Z h b "[B" .byte (Int32.ofNat (2 * n)) (own_utf cf)) := by
  refine Met.intro (plainFor_of_name (by first | (simp [plainName, overriddenIn, x]; done) | decide +kernel)) (fun m => (show entryFrame m #[(.ref s), (.int (0 : Int32)), (.int (Int32.ofNat n))] 6 = mkF m 0 #[.val (.ref s), .val (.int (0 : Int32)), .val (.int (Int32.ofNat n)), .unset, .unset, .unset] [] from by first | rfl | (simp [entryFrame, mkF, argsToLocals, Value.category]; done))) (fun w Y C => ?_)
  have K := Keep.refl h0 []
  refine g_iloadN C d9_0 (pc' := 1) rfl rfl ?_
  refine g_newarr C (ad := "[B") (cap := 6) (hw _ (List.mem_of_getElem? (i := 23) rfl)) d9_1 (pc' := 3) rfl rfl (n32_nn (by omega)) (by rw [n32_nat (by omega)]; omega) (by decide) (k' := 1) (n' := 6) rfl rfl (by decide) (by decide) rfl ?_
  intro h12 b12 E12 fb12 gb12 A12
  have ne_s_b12 : s ≠ b12 := Nat.ne_of_lt (Nat.lt_of_lt_of_le A.lt fb12)
  have sz_b12 : h0.size ≤ b12 := Nat.le_trans K.1 fb12
  have A := A.ext E12
  have X := X.ext E12
  have K := K.ext E12
  have A12 : Arf Z h12 b12 "[B" .byte (Int32.ofNat n) (fun _ => (.int 0)) := A12
  refine g_astoreN C d9_3 (pc' := 4) rfl rfl (Ls' := #[.val (.ref s), .val (.int (0 : Int32)), .val (.int (Int32.ofNat n)), .val (.ref b12), .unset, .unset]) rfl ?_
  refine g_aloadN C d9_4 (pc' := 5) rfl rfl rfl ?_
  refine g_iloadN C d9_5 (pc' := 6) rfl rfl ?_
  refine g_aloadN C d9_6 (pc' := 7) rfl rfl rfl ?_
  refine g_iconst C (z := (0 : Int32)) d9_7 (pc' := 8) rfl rfl ?_
  refine g_iloadN C d9_8 (pc' := 9) rfl rfl ?_
  refine g_static (rm := R_k5) C (y := (⟨"java/lang/StringUTF16", "compress", "([CI[BII)I"⟩ : MethodName)) (hw _ (List.mem_of_getElem? (i := 53) rfl)) (hw _ (List.mem_of_getElem? (i := 54) rfl)) (hw _ (List.mem_of_getElem? (i := 51) rfl)) (hw _ (List.mem_of_getElem? (i := 55) rfl)) (by decide) d9_9 (pc' := 12) rfl (argsL := [(.ref s), (.int (0 : Int32)), (.ref b12), (.int (0 : Int32)), (.int (Int32.ofNat n))]) (rest := []) (lenOf pd_3 rfl) rfl (W := 0) (Nat.le_of_eq rfl) rfl (fun hn => Met.back (rm := R_k5) (k5 hw s b12 n cf A (A12.congr fun j _ => own_lk0 j) h6 gb12 ne_s_b12) hn C.hZ (hw _ (List.mem_of_getElem? (i := 55) rfl)) (hw _ (List.mem_of_getElem? (i := 51) rfl)) (by decide) (by decide)) (k' := 1) (n' := 6) rfl rfl (by decide) (by decide) ?_
  rintro _ h13 ⟨r, rfl, Kk, hr⟩
  have A := A.keep Kk (ninS ne_s_b12 nin0)
  have X := X.keep Kk (allS gb12 all0)
  have K := K.trans Kk (allS (Or.inr sz_b12) all0)
  show Go w l _ n0 _ h13 1 6 12 #[.val (.ref s), .val (.int (0 : Int32)), .val (.int (Int32.ofNat n)), .val (.ref b12), .unset, .unset] [(.int (Int32.ofNat r))]
  refine g_istore C d9_12 (pc' := 14) rfl (Ls' := #[.val (.ref s), .val (.int (0 : Int32)), .val (.int (Int32.ofNat n)), .val (.ref b12), .val (.int (Int32.ofNat r)), .unset]) rfl ?_
  refine g_iload C d9_14 (pc' := 16) rfl rfl ?_
  refine g_iloadN C d9_16 (pc' := 17) rfl rfl ?_
  refine g_icmp_eq C d9_17 (by decide) (pc' := 57) (by decide) (pcN := 20) rfl (fun q => absurd (fun j hj => hr.elim (fun z => z.2.2 j hj) (fun z => absurd q (own_nen z.1 h6))) hU) (fun _ => ?_)
  have hr' : r < n ∧ 255 < (cf r).toInt := hr.elim (fun z => absurd z.2.2 hU) id
  refine g_aloadN C d9_20 (pc' := 21) rfl rfl rfl ?_
  refine g_iloadN C d9_21 (pc' := 22) rfl rfl ?_
  refine g_iloadN C d9_22 (pc' := 23) rfl rfl ?_
  refine g_static (rm := R_tb) C (y := (⟨"java/lang/StringUTF16", "toBytes", "([CII)[B"⟩ : MethodName)) (hw _ (List.mem_of_getElem? (i := 59) rfl)) (hw _ (List.mem_of_getElem? (i := 60) rfl)) (hw _ (List.mem_of_getElem? (i := 51) rfl)) (hw _ (List.mem_of_getElem? (i := 61) rfl)) (by decide) d9_23 (pc' := 26) rfl (argsL := [(.ref s), (.int (0 : Int32)), (.int (Int32.ofNat n))]) (rest := []) (lenOf pd_4 rfl) rfl (W := 0) (Nat.le_of_eq rfl) rfl (fun hn => Met.back (rm := R_tb) (tb hw s n cf A h6 OA OH OL X) hn C.hZ (hw _ (List.mem_of_getElem? (i := 61) rfl)) (hw _ (List.mem_of_getElem? (i := 51) rfl)) (by decide) (by decide)) (k' := 2) (n' := 18) rfl rfl (by decide) (by decide) ?_
  rintro _ h14 ⟨t, rfl, szt, gt, Kt, B⟩
  have ne_s_t : s ≠ t := Nat.ne_of_lt (Nat.lt_of_lt_of_le A.lt szt)
  have sz_t : h0.size ≤ t := Nat.le_trans K.1 szt
  have A := A.keep Kt nin0
  have X := X.keep Kt all0
  have K := K.trans Kt (by intro x hx; simp at hx)
  show Go w l _ n0 _ h14 2 18 26 #[.val (.ref s), .val (.int (0 : Int32)), .val (.int (Int32.ofNat n)), .val (.ref b12), .val (.int (Int32.ofNat r)), .unset] [(.ref t)]
  refine g_astore C d9_26 (pc' := 28) rfl rfl (Ls' := #[.val (.ref s), .val (.int (0 : Int32)), .val (.int (Int32.ofNat n)), .val (.ref b12), .val (.int (Int32.ofNat r)), .val (.ref t)]) rfl ?_
  refine g_aload C d9_28 (pc' := 30) rfl rfl rfl ?_
  refine g_iload C d9_30 (pc' := 32) rfl rfl ?_
  refine g_static (rm := R_s_getc) C (y := (⟨"java/lang/StringUTF16", "getChar", "([BI)C"⟩ : MethodName)) (hw _ (List.mem_of_getElem? (i := 75) rfl)) (hw _ (List.mem_of_getElem? (i := 76) rfl)) (hw _ (List.mem_of_getElem? (i := 51) rfl)) (hw _ (List.mem_of_getElem? (i := 77) rfl)) (by decide) d9_32 (pc' := 35) rfl (argsL := [(.ref t), (.int (Int32.ofNat r))]) (rest := []) (lenOf pd_5 rfl) rfl (W := 0) (Nat.le_of_eq rfl) rfl (fun hn => Met.back (rm := R_s_getc) (s_getc hw t n r cf (Arw.of_arf B) hr'.1 h6 hc OA OH OL X) hn C.hZ (hw _ (List.mem_of_getElem? (i := 77) rfl)) (hw _ (List.mem_of_getElem? (i := 51) rfl)) (by decide) (by decide)) (k' := 2) (n' := 18) rfl rfl (by decide) (by decide) ?_
  rintro _ _ ⟨rfl, rfl⟩
  show Go w l _ n0 _ h14 2 18 35 #[.val (.ref s), .val (.int (0 : Int32)), .val (.int (Int32.ofNat n)), .val (.ref b12), .val (.int (Int32.ofNat r)), .val (.ref t)] [(.int (cf r))]
  refine g_sipush C (z := (255 : Int32)) d9_35 (pc' := 38) rfl rfl ?_
  refine g_icmp_gt C d9_38 (by decide) (pc' := 54) (by decide) (pcN := 41) rfl (fun _ => ?_) (fun q => absurd (show (255 : Int32) < cf r from Int32.lt_iff_toInt_lt.mpr hr'.2) q)
  refine g_aload C d9_54 (pc' := 56) rfl rfl rfl ?_
  exact g_retA C rfl (t := (.array .byte)) rfl rfl d9_56 ⟨t, rfl, sz_t, gt, K, B⟩ (by decide) (by decide)
def R_s_clL : Room := ({ frames := 0, cells := 0, slots := 0, locals := 0 } : Room)
set_option maxRecDepth 65536 in
set_option maxHeartbeats 40000000 in
theorem s_clL {l : Launch} {Z : State} {a0 : Array Value} (hw : ∀ d ∈ tables_1, d.before a0 Z = true) {h0 : Heap} {n0 : Nat} (t : Addr) (n : Nat) (f : Nat → Value) (A : Arf Z h0 t "[B" .byte (Int32.ofNat n) f) (h1 : 1 ≤ n) (h6 : n ≤ 6) :
    Met l Z (⟨"java/lang/StringUTF16", "coderFromArrayLen", "([BI)B"⟩ : MethodName) jdk_52_method_15_code 2 (some .byte) R_s_clL n0 h0 #[(.ref t), (.int (Int32.ofNat n))] (fun r h => r = some (.int 0) ∧ h0 = h) := by
  refine Met.intro (plainFor_of_name (by first | (simp [plainName, overriddenIn, x]; done) | decide +kernel)) (fun m => (show entryFrame m #[(.ref t), (.int (Int32.ofNat n))] 2 = mkF m 0 #[.val (.ref t), .val (.int (Int32.ofNat n))] [] from by first | rfl | (simp [entryFrame, mkF, argsToLocals, Value.category]; done))) (fun w Y C => ?_)
  refine g_iloadN C d11_0 (pc' := 1) rfl rfl ?_
  refine g_aloadN C d11_1 (pc' := 2) rfl rfl rfl ?_
  refine g_len C A d11_2 (pc' := 3) rfl ?_
  refine g_isub C d11_3 (pc' := 4) rfl ?_
  refine g_bipush C (z := (31 : Int32)) d11_4 (pc' := 6) rfl rfl ?_
  refine g_iushr C d11_6 (pc' := 7) rfl ?_
  refine g_i2b C d11_7 (pc' := 8) rfl ?_
  exact g_retN C (t := .byte) rfl (by simp) d11_8 ⟨by rw [own_cl0 h6]; rfl, rfl⟩ (by decide) (by decide)
def R_s_clU : Room := ({ frames := 0, cells := 0, slots := 0, locals := 0 } : Room)
set_option maxRecDepth 65536 in
set_option maxHeartbeats 40000000 in
theorem s_clU {l : Launch} {Z : State} {a0 : Array Value} (hw : ∀ d ∈ tables_1, d.before a0 Z = true) {h0 : Heap} {n0 : Nat} (t : Addr) (n : Nat) (f : Nat → Value) (A : Arf Z h0 t "[B" .byte (Int32.ofNat (2 * n)) f) (h1 : 1 ≤ n) (h6 : n ≤ 6) :
    Met l Z (⟨"java/lang/StringUTF16", "coderFromArrayLen", "([BI)B"⟩ : MethodName) jdk_52_method_15_code 2 (some .byte) R_s_clU n0 h0 #[(.ref t), (.int (Int32.ofNat n))] (fun r h => r = some (.int 1) ∧ h0 = h) := by
  refine Met.intro (plainFor_of_name (by first | (simp [plainName, overriddenIn, x]; done) | decide +kernel)) (fun m => (show entryFrame m #[(.ref t), (.int (Int32.ofNat n))] 2 = mkF m 0 #[.val (.ref t), .val (.int (Int32.ofNat n))] [] from by first | rfl | (simp [entryFrame, mkF, argsToLocals, Value.category]; done))) (fun w Y C => ?_)
  refine g_iloadN C d11_0 (pc' := 1) rfl rfl ?_
  refine g_aloadN C d11_1 (pc' := 2) rfl rfl rfl ?_
  refine g_len C A d11_2 (pc' := 3) rfl ?_
  refine g_isub C d11_3 (pc' := 4) rfl ?_
  refine g_bipush C (z := (31 : Int32)) d11_4 (pc' := 6) rfl rfl ?_
  refine g_iushr C d11_6 (pc' := 7) rfl ?_
  refine g_i2b C d11_7 (pc' := 8) rfl ?_
  exact g_retN C (t := .byte) rfl (by simp) d11_8 ⟨by rw [own_cl1 h1 h6]; rfl, rfl⟩ (by decide) (by decide)
def R_s_vL : Room := ({ frames := 4, cells := 2, slots := 18, locals := 57 } : Room)
set_option maxRecDepth 65536 in
set_option maxHeartbeats 40000000 in
theorem s_vL {l : Launch} {Z : State} {a0 : Array Value} (hw : ∀ d ∈ tables_1, d.before a0 Z = true) {h0 : Heap} {n0 : Nat} (x s : Addr) (n : Nat) (cf : Nat → Int32) (G1 : Int32) (F1 : Fld Z h0 x "java/lang/String" "value" "[B" .null) (F2 : Fld Z h0 x "java/lang/String" "coder" "B" (.int 0)) (E : Exa Z h0 x "java/lang/String") (gx : n0 ≤ x) (A : Arf Z h0 s "[C" .char (Int32.ofNat n) (fun j => .int (cf j))) (h1 : 1 ≤ n) (h6 : n ≤ 6) (hc : ∀ j, j < n → 0 ≤ (cf j).toInt ∧ (cf j).toInt < 65536) (O2 : Sta Z Z.heap "java/lang/String" "COMPACT_STRINGS" "Z" (.int G1)) (P5 : ¬ G1 = 0) (OA : Sta Z Z.heap "java/lang/StringUTF16" "$assertionsDisabled" "Z" (.int 1)) (OH : Sta Z Z.heap "java/lang/StringUTF16" "HI_BYTE_SHIFT" "I" (.int 0)) (OL : Sta Z Z.heap "java/lang/StringUTF16" "LO_BYTE_SHIFT" "I" (.int 8)) (X : Old Z n0 h0) (hL : ∀ j, j < n → ¬ 255 < (cf j).toInt) :
    Met l Z (⟨"java/lang/String", "<init>", "([CIILjava/lang/Void;)V"⟩ : MethodName) jdk_42_method_149_code 6 none R_s_vL n0 h0 #[(.ref x), (.ref s), (.int (0 : Int32)), (.int (Int32.ofNat n)), .null] (fun v h => v = none ∧ Keep h0 h [x] ∧ own_Str Z h x n cf) := by
  refine Met.intro (plainFor_of_name (by first | (simp [plainName, overriddenIn, x]; done) | decide +kernel)) (fun m => (show entryFrame m #[(.ref x), (.ref s), (.int (0 : Int32)), (.int (Int32.ofNat n)), .null] 6 = mkF m 0 #[.val (.ref x), .val (.ref s), .val (.int (0 : Int32)), .val (.int (Int32.ofNat n)), .val .null, .unset] [] from by first | rfl | (simp [entryFrame, mkF, argsToLocals, Value.category]; done))) (fun w Y C => ?_)
  have K := Keep.refl h0 [x]
  refine g_aloadN C d4_0 (pc' := 1) rfl rfl rfl ?_
  refine g_initO C (W := 0) (hw _ (List.mem_of_getElem? (i := 19) rfl)) (hw _ (List.mem_of_getElem? (i := 20) rfl)) (hw _ (List.mem_of_getElem? (i := 21) rfl)) d4_1 (pc' := 4) rfl rfl (by decide) (Nat.le_of_eq rfl) (by decide) ?_
  refine g_iloadN C d4_4 (pc' := 5) rfl rfl ?_
  refine g_if_ne C d4_5 (by decide) (pc' := 27) (by decide) (pcN := 8) rfl (fun _ => ?_) (fun q => absurd q (own_n0 h1 h6))
  refine g_getS (host := "") C (Or.inl (hw _ (List.mem_of_getElem? (i := 48) rfl))) Via.refl (O2.ext X.2) d4_27 (pc' := 30) rfl ?_
  refine g_if_eq C d4_30 (by decide) (pc' := 58) (by decide) (pcN := 33) rfl (fun q => absurd q P5) (fun _ => ?_)
  refine g_aloadN C d4_33 (pc' := 34) rfl rfl rfl ?_
  refine g_iloadN C d4_34 (pc' := 35) rfl rfl ?_
  refine g_iloadN C d4_35 (pc' := 36) rfl rfl ?_
  refine g_static (rm := R_k3L) C (y := (⟨"java/lang/StringUTF16", "compress", "([CII)[B"⟩ : MethodName)) (hw _ (List.mem_of_getElem? (i := 49) rfl)) (hw _ (List.mem_of_getElem? (i := 50) rfl)) (hw _ (List.mem_of_getElem? (i := 51) rfl)) (hw _ (List.mem_of_getElem? (i := 52) rfl)) (by decide) d4_36 (pc' := 39) rfl (argsL := [(.ref s), (.int (0 : Int32)), (.int (Int32.ofNat n))]) (rest := []) (lenOf pd_4 rfl) rfl (W := 0) (Nat.le_of_eq rfl) rfl (fun hn => Met.back (rm := R_k3L) (k3L hw s n cf A h6 hL OA OH OL X) hn C.hZ (hw _ (List.mem_of_getElem? (i := 52) rfl)) (hw _ (List.mem_of_getElem? (i := 51) rfl)) (by decide) (by decide)) (k' := 1) (n' := 6) rfl rfl (by decide) (by decide) ?_
  rintro _ h15 ⟨b, rfl, szb, gb, Kb, B⟩
  have ne_x_b : x ≠ b := Nat.ne_of_lt (Nat.lt_of_lt_of_le F1.lt szb)
  have ne_s_b : s ≠ b := Nat.ne_of_lt (Nat.lt_of_lt_of_le A.lt szb)
  have sz_b : h0.size ≤ b := Nat.le_trans K.1 szb
  have F1 := F1.keep Kb nin0
  have F2 := F2.keep Kb nin0
  have E := E.keep Kb
  have K := K.trans Kb (by intro x hx; simp at hx)
  have X := X.keep Kb all0
  have A := A.keep Kb nin0
  show Go w l _ n0 _ h15 1 6 39 #[.val (.ref x), .val (.ref s), .val (.int (0 : Int32)), .val (.int (Int32.ofNat n)), .val .null, .unset] [(.ref b)]
  refine g_astore C d4_39 (pc' := 41) rfl rfl (Ls' := #[.val (.ref x), .val (.ref s), .val (.int (0 : Int32)), .val (.int (Int32.ofNat n)), .val .null, .val (.ref b)]) rfl ?_
  refine g_aloadN C d4_41 (pc' := 42) rfl rfl rfl ?_
  refine g_aload C d4_42 (pc' := 44) rfl rfl rfl ?_
  refine g_iloadN C d4_44 (pc' := 45) rfl rfl ?_
  refine g_static (rm := R_s_clL) C (y := (⟨"java/lang/StringUTF16", "coderFromArrayLen", "([BI)B"⟩ : MethodName)) (hw _ (List.mem_of_getElem? (i := 56) rfl)) (hw _ (List.mem_of_getElem? (i := 57) rfl)) (hw _ (List.mem_of_getElem? (i := 51) rfl)) (hw _ (List.mem_of_getElem? (i := 58) rfl)) (by decide) d4_45 (pc' := 48) rfl (argsL := [(.ref b), (.int (Int32.ofNat n))]) (rest := [(.ref x)]) (lenOf pd_6 rfl) rfl (W := 1) (Nat.le_of_eq rfl) rfl (fun hn => Met.back (rm := R_s_clL) (s_clL hw b n _ B h1 h6) hn C.hZ (hw _ (List.mem_of_getElem? (i := 58) rfl)) (hw _ (List.mem_of_getElem? (i := 51) rfl)) (by decide) (by decide)) (k' := 1) (n' := 6) rfl rfl (by decide) (by decide) ?_
  rintro _ _ ⟨rfl, rfl⟩
  show Go w l _ n0 _ h15 1 6 48 #[.val (.ref x), .val (.ref s), .val (.int (0 : Int32)), .val (.int (Int32.ofNat n)), .val .null, .val (.ref b)] [(.int (0 : Int32)), (.ref x)]
  refine g_putFN C (hw _ (List.mem_of_getElem? (i := 29) rfl)) Via.refl F2 E (Or.inr ⟨(hw _ (List.mem_of_getElem? (i := 25) rfl)), rfl, rfl⟩) (hw _ (List.mem_of_getElem? (i := 9) rfl)) (ty := .byte) (v' := (.int (0 : Int32))) (by decide) rfl rfl d4_48 (pc' := 51) rfl gx (fun h16 W17 => ?_)
  have F2 := F2.same W17
  have F1 := F1.other W17 (Or.inr (slot_ne (Or.inr (hw _ (List.mem_of_getElem? (i := 24) rfl)) : Laid Z a0 "java/lang/String" "java/lang/String" "value" "[B") (Or.inr (hw _ (List.mem_of_getElem? (i := 25) rfl)) : Laid Z a0 "java/lang/String" "java/lang/String" "coder" "B") (by decide) (t := (.array .byte)) (t' := .byte) (by decide) (by decide)))
  have E := E.wr W17
  have K := K.wr W17 (Or.inl (by simp))
  have X := X.wr W17 gx
  have B := B.other W17 (Ne.symm ne_x_b)
  refine g_aloadN C d4_51 (pc' := 52) rfl rfl rfl ?_
  refine g_aload C d4_52 (pc' := 54) rfl rfl rfl ?_
  refine g_putF (host := "") C (Or.inl (hw _ (List.mem_of_getElem? (i := 28) rfl))) Via.refl F1 E (Or.inr ⟨(hw _ (List.mem_of_getElem? (i := 24) rfl)), rfl, rfl⟩) (hw _ (List.mem_of_getElem? (i := 9) rfl)) (ty := (.array .byte)) (by decide) rfl rfl d4_54 (pc' := 57) rfl gx (fun h18 W19 => ?_)
  have F1 := F1.same W19
  have F2 := F2.other W19 (Or.inr (slot_ne (Or.inr (hw _ (List.mem_of_getElem? (i := 25) rfl)) : Laid Z a0 "java/lang/String" "java/lang/String" "coder" "B") (Or.inr (hw _ (List.mem_of_getElem? (i := 24) rfl)) : Laid Z a0 "java/lang/String" "java/lang/String" "value" "[B") (by decide) (t := .byte) (t' := (.array .byte)) (by decide) (by decide)))
  have E := E.wr W19
  have K := K.wr W19 (Or.inl (by simp))
  have X := X.wr W19 gx
  have B := B.other W19 (Ne.symm ne_x_b)
  exact g_ret C rfl d4_57 ⟨rfl, K, E, Or.inl ⟨b, F2, F1, Arw.of_arf B, hL⟩⟩ (by decide) (by decide)
def R_s_vU : Room := ({ frames := 4, cells := 2, slots := 18, locals := 57 } : Room)
set_option maxRecDepth 65536 in
set_option maxHeartbeats 40000000 in
theorem s_vU {l : Launch} {Z : State} {a0 : Array Value} (hw : ∀ d ∈ tables_1, d.before a0 Z = true) {h0 : Heap} {n0 : Nat} (x s : Addr) (n : Nat) (cf : Nat → Int32) (G1 : Int32) (F1 : Fld Z h0 x "java/lang/String" "value" "[B" .null) (F2 : Fld Z h0 x "java/lang/String" "coder" "B" (.int 0)) (E : Exa Z h0 x "java/lang/String") (gx : n0 ≤ x) (A : Arf Z h0 s "[C" .char (Int32.ofNat n) (fun j => .int (cf j))) (h1 : 1 ≤ n) (h6 : n ≤ 6) (hc : ∀ j, j < n → 0 ≤ (cf j).toInt ∧ (cf j).toInt < 65536) (O2 : Sta Z Z.heap "java/lang/String" "COMPACT_STRINGS" "Z" (.int G1)) (P5 : ¬ G1 = 0) (OA : Sta Z Z.heap "java/lang/StringUTF16" "$assertionsDisabled" "Z" (.int 1)) (OH : Sta Z Z.heap "java/lang/StringUTF16" "HI_BYTE_SHIFT" "I" (.int 0)) (OL : Sta Z Z.heap "java/lang/StringUTF16" "LO_BYTE_SHIFT" "I" (.int 8)) (X : Old Z n0 h0) (hU : ¬ ∀ j, j < n → ¬ 255 < (cf j).toInt) :
    Met l Z (⟨"java/lang/String", "<init>", "([CIILjava/lang/Void;)V"⟩ : MethodName) jdk_42_method_149_code 6 none R_s_vL n0 h0 #[(.ref x), (.ref s), (.int (0 : Int32)), (.int (Int32.ofNat n)), .null] (fun v h => v = none ∧ Keep h0 h [x] ∧ own_Str Z h x n cf) := by
  refine Met.intro (plainFor_of_name (by first | (simp [plainName, overriddenIn, x]; done) | decide +kernel)) (fun m => (show entryFrame m #[(.ref x), (.ref s), (.int (0 : Int32)), (.int (Int32.ofNat n)), .null] 6 = mkF m 0 #[.val (.ref x), .val (.ref s), .val (.int (0 : Int32)), .val (.int (Int32.ofNat n)), .val .null, .unset] [] from by first | rfl | (simp [entryFrame, mkF, argsToLocals, Value.category]; done))) (fun w Y C => ?_)
  have K := Keep.refl h0 [x]
  refine g_aloadN C d4_0 (pc' := 1) rfl rfl rfl ?_
  refine g_initO C (W := 0) (hw _ (List.mem_of_getElem? (i := 19) rfl)) (hw _ (List.mem_of_getElem? (i := 20) rfl)) (hw _ (List.mem_of_getElem? (i := 21) rfl)) d4_1 (pc' := 4) rfl rfl (by decide) (Nat.le_of_eq rfl) (by decide) ?_
  refine g_iloadN C d4_4 (pc' := 5) rfl rfl ?_
  refine g_if_ne C d4_5 (by decide) (pc' := 27) (by decide) (pcN := 8) rfl (fun _ => ?_) (fun q => absurd q (own_n0 h1 h6))
  refine g_getS (host := "") C (Or.inl (hw _ (List.mem_of_getElem? (i := 48) rfl))) Via.refl (O2.ext X.2) d4_27 (pc' := 30) rfl ?_
  refine g_if_eq C d4_30 (by decide) (pc' := 58) (by decide) (pcN := 33) rfl (fun q => absurd q P5) (fun _ => ?_)
  refine g_aloadN C d4_33 (pc' := 34) rfl rfl rfl ?_
  refine g_iloadN C d4_34 (pc' := 35) rfl rfl ?_
  refine g_iloadN C d4_35 (pc' := 36) rfl rfl ?_
  refine g_static (rm := R_k3U) C (y := (⟨"java/lang/StringUTF16", "compress", "([CII)[B"⟩ : MethodName)) (hw _ (List.mem_of_getElem? (i := 49) rfl)) (hw _ (List.mem_of_getElem? (i := 50) rfl)) (hw _ (List.mem_of_getElem? (i := 51) rfl)) (hw _ (List.mem_of_getElem? (i := 52) rfl)) (by decide) d4_36 (pc' := 39) rfl (argsL := [(.ref s), (.int (0 : Int32)), (.int (Int32.ofNat n))]) (rest := []) (lenOf pd_4 rfl) rfl (W := 0) (Nat.le_of_eq rfl) rfl (fun hn => Met.back (rm := R_k3U) (k3U hw s n cf A h6 hU hc OA OH OL X) hn C.hZ (hw _ (List.mem_of_getElem? (i := 52) rfl)) (hw _ (List.mem_of_getElem? (i := 51) rfl)) (by decide) (by decide)) (k' := 2) (n' := 18) rfl rfl (by decide) (by decide) ?_
  rintro _ h20 ⟨b, rfl, szb, gb, Kb, B⟩
  have ne_x_b : x ≠ b := Nat.ne_of_lt (Nat.lt_of_lt_of_le F1.lt szb)
  have ne_s_b : s ≠ b := Nat.ne_of_lt (Nat.lt_of_lt_of_le A.lt szb)
  have sz_b : h0.size ≤ b := Nat.le_trans K.1 szb
  have F1 := F1.keep Kb nin0
  have F2 := F2.keep Kb nin0
  have E := E.keep Kb
  have K := K.trans Kb (by intro x hx; simp at hx)
  have X := X.keep Kb all0
  have A := A.keep Kb nin0
  show Go w l _ n0 _ h20 2 18 39 #[.val (.ref x), .val (.ref s), .val (.int (0 : Int32)), .val (.int (Int32.ofNat n)), .val .null, .unset] [(.ref b)]
  refine g_astore C d4_39 (pc' := 41) rfl rfl (Ls' := #[.val (.ref x), .val (.ref s), .val (.int (0 : Int32)), .val (.int (Int32.ofNat n)), .val .null, .val (.ref b)]) rfl ?_
  refine g_aloadN C d4_41 (pc' := 42) rfl rfl rfl ?_
  refine g_aload C d4_42 (pc' := 44) rfl rfl rfl ?_
  refine g_iloadN C d4_44 (pc' := 45) rfl rfl ?_
  refine g_static (rm := R_s_clU) C (y := (⟨"java/lang/StringUTF16", "coderFromArrayLen", "([BI)B"⟩ : MethodName)) (hw _ (List.mem_of_getElem? (i := 56) rfl)) (hw _ (List.mem_of_getElem? (i := 57) rfl)) (hw _ (List.mem_of_getElem? (i := 51) rfl)) (hw _ (List.mem_of_getElem? (i := 58) rfl)) (by decide) d4_45 (pc' := 48) rfl (argsL := [(.ref b), (.int (Int32.ofNat n))]) (rest := [(.ref x)]) (lenOf pd_6 rfl) rfl (W := 1) (Nat.le_of_eq rfl) rfl (fun hn => Met.back (rm := R_s_clU) (s_clU hw b n _ B h1 h6) hn C.hZ (hw _ (List.mem_of_getElem? (i := 58) rfl)) (hw _ (List.mem_of_getElem? (i := 51) rfl)) (by decide) (by decide)) (k' := 2) (n' := 18) rfl rfl (by decide) (by decide) ?_
  rintro _ _ ⟨rfl, rfl⟩
  show Go w l _ n0 _ h20 2 18 48 #[.val (.ref x), .val (.ref s), .val (.int (0 : Int32)), .val (.int (Int32.ofNat n)), .val .null, .val (.ref b)] [(.int (1 : Int32)), (.ref x)]
  refine g_putFN C (hw _ (List.mem_of_getElem? (i := 29) rfl)) Via.refl F2 E (Or.inr ⟨(hw _ (List.mem_of_getElem? (i := 25) rfl)), rfl, rfl⟩) (hw _ (List.mem_of_getElem? (i := 9) rfl)) (ty := .byte) (v' := (.int (1 : Int32))) (by decide) rfl rfl d4_48 (pc' := 51) rfl gx (fun h21 W22 => ?_)
  have F2 := F2.same W22
  have F1 := F1.other W22 (Or.inr (slot_ne (Or.inr (hw _ (List.mem_of_getElem? (i := 24) rfl)) : Laid Z a0 "java/lang/String" "java/lang/String" "value" "[B") (Or.inr (hw _ (List.mem_of_getElem? (i := 25) rfl)) : Laid Z a0 "java/lang/String" "java/lang/String" "coder" "B") (by decide) (t := (.array .byte)) (t' := .byte) (by decide) (by decide)))
  have E := E.wr W22
  have K := K.wr W22 (Or.inl (by simp))
  have X := X.wr W22 gx
  have B := B.other W22 (Ne.symm ne_x_b)
  refine g_aloadN C d4_51 (pc' := 52) rfl rfl rfl ?_
  refine g_aload C d4_52 (pc' := 54) rfl rfl rfl ?_
  refine g_putF (host := "") C (Or.inl (hw _ (List.mem_of_getElem? (i := 28) rfl))) Via.refl F1 E (Or.inr ⟨(hw _ (List.mem_of_getElem? (i := 24) rfl)), rfl, rfl⟩) (hw _ (List.mem_of_getElem? (i := 9) rfl)) (ty := (.array .byte)) (by decide) rfl rfl d4_54 (pc' := 57) rfl gx (fun h23 W24 => ?_)
  have F1 := F1.same W24
  have F2 := F2.other W24 (Or.inr (slot_ne (Or.inr (hw _ (List.mem_of_getElem? (i := 25) rfl)) : Laid Z a0 "java/lang/String" "java/lang/String" "coder" "B") (Or.inr (hw _ (List.mem_of_getElem? (i := 24) rfl)) : Laid Z a0 "java/lang/String" "java/lang/String" "value" "[B") (by decide) (t := .byte) (t' := (.array .byte)) (by decide) (by decide)))
  have E := E.wr W24
  have K := K.wr W24 (Or.inl (by simp))
  have X := X.wr W24 gx
  have B := B.other W24 (Ne.symm ne_x_b)
  exact g_ret C rfl d4_57 ⟨rfl, K, E, Or.inr ⟨b, F2, F1, Arw.of_arf B⟩⟩ (by decide) (by decide)
def R_s_i : Room := ({ frames := 5, cells := 2, slots := 18, locals := 74 } : Room)
set_option maxRecDepth 65536 in
set_option maxHeartbeats 40000000 in
theorem s_i {l : Launch} {Z : State} {a0 : Array Value} (hw : ∀ d ∈ tables_1, d.before a0 Z = true) {h0 : Heap} {n0 : Nat} (x s : Addr) (n : Nat) (cf : Nat → Int32) (G1 : Int32) (F1 : Fld Z h0 x "java/lang/String" "value" "[B" .null) (F2 : Fld Z h0 x "java/lang/String" "coder" "B" (.int 0)) (E : Exa Z h0 x "java/lang/String") (gx : n0 ≤ x) (A : Arf Z h0 s "[C" .char (Int32.ofNat n) (fun j => .int (cf j))) (h1 : 1 ≤ n) (h6 : n ≤ 6) (hc : ∀ j, j < n → 0 ≤ (cf j).toInt ∧ (cf j).toInt < 65536) (O2 : Sta Z Z.heap "java/lang/String" "COMPACT_STRINGS" "Z" (.int G1)) (P5 : ¬ G1 = 0) (OA : Sta Z Z.heap "java/lang/StringUTF16" "$assertionsDisabled" "Z" (.int 1)) (OH : Sta Z Z.heap "java/lang/StringUTF16" "HI_BYTE_SHIFT" "I" (.int 0)) (OL : Sta Z Z.heap "java/lang/StringUTF16" "LO_BYTE_SHIFT" "I" (.int 8)) (X : Old Z n0 h0) :
    Met l Z (⟨"java/lang/String", "<init>", "([C)V"⟩ : MethodName) jdk_42_method_3_code 2 none R_s_i n0 h0 #[(.ref x), (.ref s)] (fun v h => v = none ∧ Keep h0 h [x] ∧ own_Str Z h x n cf) := by
  refine Met.intro (plainFor_of_name (by first | (simp [plainName, overriddenIn, x]; done) | decide +kernel)) (fun m => (show entryFrame m #[(.ref x), (.ref s)] 2 = mkF m 0 #[.val (.ref x), .val (.ref s)] [] from by first | rfl | (simp [entryFrame, mkF, argsToLocals, Value.category]; done))) (fun w Y C => ?_)
  refine g_aloadN C d3_0 (pc' := 1) rfl rfl rfl ?_
  refine g_aloadN C d3_1 (pc' := 2) rfl rfl rfl ?_
  refine g_iconst C (z := (0 : Int32)) d3_2 (pc' := 3) rfl rfl ?_
  refine g_aloadN C d3_3 (pc' := 4) rfl rfl rfl ?_
  refine g_len C A d3_4 (pc' := 5) rfl ?_
  refine g_null C d3_5 (pc' := 6) rfl ?_
  refine g_special (rm := R_s_vL) (a := x) C (y := (⟨"java/lang/String", "<init>", "([CIILjava/lang/Void;)V"⟩ : MethodName)) rfl (hw _ (List.mem_of_getElem? (i := 15) rfl)) (hw _ (List.mem_of_getElem? (i := 16) rfl)) (hw _ (List.mem_of_getElem? (i := 18) rfl)) (by decide) d3_6 (pc' := 9) rfl (argsL := [(.ref s), (.int (0 : Int32)), (.int (Int32.ofNat n)), .null]) (rest := []) (lenOf pd_7 rfl) rfl (W := 0) (Nat.le_of_eq rfl) rfl (fun hn => Met.back (rm := R_s_vL) (if hL : ∀ j, j < n → ¬ 255 < (cf j).toInt then s_vL hw x s n cf G1 F1 F2 E gx A h1 h6 hc O2 P5 OA OH OL X hL else s_vU hw x s n cf G1 F1 F2 E gx A h1 h6 hc O2 P5 OA OH OL X hL) hn C.hZ (hw _ (List.mem_of_getElem? (i := 18) rfl)) (hw _ (List.mem_of_getElem? (i := 10) rfl)) (by decide) (by decide)) (k' := 2) (n' := 18) rfl rfl (by decide) (by decide) ?_
  rintro _ h9 ⟨rfl, q9⟩
  show Go w l _ n0 _ h9 2 18 9 #[.val (.ref x), .val (.ref s)] []
  exact g_ret C rfl d3_9 ⟨rfl, q9⟩ (by decide) (by decide)
def R_s_v0 : Room := ({ frames := 1, cells := 2, slots := 4, locals := 12 } : Room)
set_option maxRecDepth 65536 in
set_option maxHeartbeats 40000000 in
theorem s_v0 {l : Launch} {Z : State} {a0 : Array Value} (hw : ∀ d ∈ tables_1, d.before a0 Z = true) {h0 : Heap} {n0 : Nat} (x s : Addr) (F1 : Fld Z h0 x "java/lang/String" "value" "[B" .null) (F2 : Fld Z h0 x "java/lang/String" "coder" "B" (.int 0)) (E : Exa Z h0 x "java/lang/String") (gx : n0 ≤ x) (X : Old Z n0 h0) (hh : Jvm.Lit.constHeld Z "java/lang/String" 7) (hcw : Jvm.Lit.compactW.before a0 Z = true) :
    MetWI l Z (⟨"java/lang/String", "<init>", "([CIILjava/lang/Void;)V"⟩ : MethodName) jdk_42_method_149_code 6 none R_s_v0 n0 h0 #[(.ref x), (.ref s), (.int (0 : Int32)), (.int (0 : Int32)), .null] (fun v h => v = none ∧ Old Z n0 h ∧ own_Str Z h x 0 (fun _ => 0)) := by
  refine MetWI.intro1 (plainFor_of_name (by first | (simp [plainName, overriddenIn, x]; done) | decide +kernel)) (fun m => (show entryFrame m #[(.ref x), (.ref s), (.int (0 : Int32)), (.int (0 : Int32)), .null] 6 = mkF m 0 #[.val (.ref x), .val (.ref s), .val (.int (0 : Int32)), .val (.int (0 : Int32)), .val .null, .unset] [] from by first | rfl | (simp [entryFrame, mkF, argsToLocals, Value.category]; done))) (fun w Y C CW hH hI hn => ?_)
  have C0 := C
  have C := C.up hn
  refine g_aloadN C d4_0 (pc' := 1) rfl rfl rfl ?_
  refine g_initO C (W := 0) (hw _ (List.mem_of_getElem? (i := 19) rfl)) (hw _ (List.mem_of_getElem? (i := 20) rfl)) (hw _ (List.mem_of_getElem? (i := 21) rfl)) d4_1 (pc' := 4) rfl rfl (by decide) (Nat.le_of_eq rfl) (by decide) ?_
  refine g_iloadN C d4_4 (pc' := 5) rfl rfl ?_
  refine g_if_ne C d4_5 (by decide) (pc' := 27) (by decide) (pcN := 8) rfl (fun q => absurd rfl q) (fun _ => ?_)
  refine g_aloadN C d4_8 (pc' := 9) rfl rfl rfl ?_
  refine g_ldcV (n0 := n0) C0 CW (z := (0 : Int32)) (m := 0) (by rw [hH]) hn (by rw [hH]; exact X.2) hI (hw _ (List.mem_of_getElem? (i := 22) rfl)) (fun d hd => hw d (own_strAtoms d hd)) hh hcw own_ht0 (by decide) rfl d4_9 (pc' := 11) rfl (by decide) (by decide) (k' := 2) (n' := 4) rfl rfl (by decide) (by decide) ?_
  intro w h1 s1 t kb C CW E1 Es Fcs Fvs Av L1
  have F1 := F1.ext E1
  have F2 := F2.ext E1
  have E := E.ext E1
  have X := X.ext E1
  have ne_x_t : x ≠ t := Exa.neArv E Av (hw _ (List.mem_of_getElem? (i := 9) rfl))
  have A1 := Arw.of_arv Av
  refine g_getF (host := "") C (Or.inl (hw _ (List.mem_of_getElem? (i := 28) rfl))) Via.refl Fvs d4_11 (pc' := 14) rfl ?_
  refine g_putF (host := "") C (Or.inl (hw _ (List.mem_of_getElem? (i := 28) rfl))) Via.refl F1 E (Or.inr ⟨(hw _ (List.mem_of_getElem? (i := 24) rfl)), rfl, rfl⟩) (hw _ (List.mem_of_getElem? (i := 9) rfl)) (ty := (.array .byte)) (by decide) rfl rfl d4_14 (pc' := 17) rfl gx (fun h25 W26 => ?_)
  have F1 := F1.same W26
  have F2 := F2.other W26 (Or.inr (slot_ne (Or.inr (hw _ (List.mem_of_getElem? (i := 25) rfl)) : Laid Z a0 "java/lang/String" "java/lang/String" "coder" "B") (Or.inr (hw _ (List.mem_of_getElem? (i := 24) rfl)) : Laid Z a0 "java/lang/String" "java/lang/String" "value" "[B") (by decide) (t := .byte) (t' := (.array .byte)) (by decide) (by decide)))
  have E := E.wr W26
  have X := X.wr W26 gx
  have Fcs := Fcs.other W26 (Or.inr (slot_ne (Or.inr (hw _ (List.mem_of_getElem? (i := 25) rfl)) : Laid Z a0 "java/lang/String" "java/lang/String" "coder" "B") (Or.inr (hw _ (List.mem_of_getElem? (i := 24) rfl)) : Laid Z a0 "java/lang/String" "java/lang/String" "value" "[B") (by decide) (t := .byte) (t' := (.array .byte)) (by decide) (by decide)))
  have A1 := A1.other W26 (Ne.symm ne_x_t)
  refine g_aloadN C d4_17 (pc' := 18) rfl rfl rfl ?_
  refine g_ldcAgain C (hw _ (List.mem_of_getElem? (i := 22) rfl)) L1 d4_18 (pc' := 20) rfl ?_
  refine g_getF (host := "") C (Or.inl (hw _ (List.mem_of_getElem? (i := 29) rfl))) Via.refl Fcs d4_20 (pc' := 23) rfl ?_
  refine g_putFN C (hw _ (List.mem_of_getElem? (i := 29) rfl)) Via.refl F2 E (Or.inr ⟨(hw _ (List.mem_of_getElem? (i := 25) rfl)), rfl, rfl⟩) (hw _ (List.mem_of_getElem? (i := 9) rfl)) (ty := .byte) (v' := (.int (0 : Int32))) (by decide) rfl rfl d4_23 (pc' := 26) rfl gx (fun h27 W28 => ?_)
  have F2 := F2.same W28
  have F1 := F1.other W28 (Or.inr (slot_ne (Or.inr (hw _ (List.mem_of_getElem? (i := 24) rfl)) : Laid Z a0 "java/lang/String" "java/lang/String" "value" "[B") (Or.inr (hw _ (List.mem_of_getElem? (i := 25) rfl)) : Laid Z a0 "java/lang/String" "java/lang/String" "coder" "B") (by decide) (t := (.array .byte)) (t' := .byte) (by decide) (by decide)))
  have E := E.wr W28
  have X := X.wr W28 gx
  have A1 := A1.other W28 (Ne.symm ne_x_t)
  exact g_ret C rfl d4_26 ⟨rfl, X, E, Or.inl ⟨t, F2, F1, A1.congr (fun j hj => absurd hj (Nat.not_lt_zero j)), fun j hj => absurd hj (Nat.not_lt_zero j)⟩⟩ (by decide) (by decide)
def R_s_i0 : Room := ({ frames := 2, cells := 2, slots := 4, locals := 29 } : Room)
set_option maxRecDepth 65536 in
set_option maxHeartbeats 40000000 in
theorem s_i0 {l : Launch} {Z : State} {a0 : Array Value} (hw : ∀ d ∈ tables_1, d.before a0 Z = true) {h0 : Heap} {n0 : Nat} (x s : Addr) (F1 : Fld Z h0 x "java/lang/String" "value" "[B" .null) (F2 : Fld Z h0 x "java/lang/String" "coder" "B" (.int 0)) (E : Exa Z h0 x "java/lang/String") (gx : n0 ≤ x) (A : Arf Z h0 s "[C" .char (0 : Int32) (fun _ => .int 0)) (X : Old Z n0 h0) (hh : Jvm.Lit.constHeld Z "java/lang/String" 7) (hcw : Jvm.Lit.compactW.before a0 Z = true) :
    MetWI l Z (⟨"java/lang/String", "<init>", "([C)V"⟩ : MethodName) jdk_42_method_3_code 2 none R_s_i0 n0 h0 #[(.ref x), (.ref s)] (fun v h => v = none ∧ Old Z n0 h ∧ own_Str Z h x 0 (fun _ => 0)) := by
  refine MetWI.intro (plainFor_of_name (by first | (simp [plainName, overriddenIn, x]; done) | decide +kernel)) (fun m => (show entryFrame m #[(.ref x), (.ref s)] 2 = mkF m 0 #[.val (.ref x), .val (.ref s)] [] from by first | rfl | (simp [entryFrame, mkF, argsToLocals, Value.category]; done))) (fun w Y C CW hH hI => ?_)
  refine g_aloadN C d3_0 (pc' := 1) rfl rfl rfl ?_
  refine g_aloadN C d3_1 (pc' := 2) rfl rfl rfl ?_
  refine g_iconst C (z := (0 : Int32)) d3_2 (pc' := 3) rfl rfl ?_
  refine g_aloadN C d3_3 (pc' := 4) rfl rfl rfl ?_
  refine g_len C A d3_4 (pc' := 5) rfl ?_
  refine g_null C d3_5 (pc' := 6) rfl ?_
  refine g_specialS (rm := R_s_v0) (a := x) C CW (y := (⟨"java/lang/String", "<init>", "([CIILjava/lang/Void;)V"⟩ : MethodName)) rfl (hw _ (List.mem_of_getElem? (i := 15) rfl)) (hw _ (List.mem_of_getElem? (i := 16) rfl)) (hw _ (List.mem_of_getElem? (i := 18) rfl)) (by decide) d3_6 (pc' := 9) rfl (argsL := [(.ref s), (.int (0 : Int32)), (.int (0 : Int32)), .null]) (rest := []) (lenOf pd_7 rfl) rfl (W := 0) (Nat.le_of_eq rfl) rfl (fun hn => MetWI.back (rm := R_s_v0) (s_v0 hw x s F1 F2 E gx X hh hcw) hn C.hZ hI (hw _ (List.mem_of_getElem? (i := 18) rfl)) (hw _ (List.mem_of_getElem? (i := 10) rfl)) (by decide) (by decide)) (k' := 2) (n' := 4) rfl rfl (by decide) (by decide) ?_
  rintro w _ h9 C CW ⟨rfl, q9⟩
  show Go w l _ n0 _ h9 2 4 9 #[.val (.ref x), .val (.ref s)] []
  exact g_ret C rfl d3_9 ⟨rfl, q9⟩ (by decide) (by decide)
def R_s_draw : Room := ({ frames := 0, cells := 0, slots := 0, locals := 0 } : Room)
set_option maxRecDepth 65536 in
set_option maxHeartbeats 40000000 in
theorem s_draw {l : Launch} {Z : State} {a0 : Array Value} (hw : ∀ d ∈ tables_1, d.before a0 Z = true) {h0 : Heap} {n0 : Nat} (p q k : Int32)  :
    Met l Z (⟨"com/example/longhaul/longhaul/IsoMessageIsTypePinLaw", "draw", "(III)C"⟩ : MethodName) method_4_code 4 (some .char) R_s_draw n0 h0 #[(.int p), (.int q), (.int k)] (fun r h => h0 = h ∧ ∃ z : Int32, r = some (.int z) ∧ 0 ≤ z.toInt ∧ z.toInt < 65536) := by
  refine Met.intro (plainFor_of_name (by first | (simp [plainName, overriddenIn, x]; done) | decide +kernel)) (fun m => (show entryFrame m #[(.int p), (.int q), (.int k)] 4 = mkF m 0 #[.val (.int p), .val (.int q), .val (.int k), .unset] [] from by first | rfl | (simp [entryFrame, mkF, argsToLocals, Value.category]; done))) (fun w Y C => ?_)
  refine g_iloadN C d1_0 (pc' := 1) rfl rfl ?_
  refine g_ldcI C (hw _ (List.mem_of_getElem? (i := 4) rfl)) d1_1 (pc' := 3) rfl ?_
  refine g_iand C d1_3 (pc' := 4) rfl ?_
  refine g_istoreN C d1_4 (pc' := 5) rfl (Ls' := #[.val (.int p), .val (.int q), .val (.int k), .val (.int (p &&& (65535 : Int32)))]) rfl ?_
  refine g_iloadN C d1_5 (pc' := 6) rfl rfl ?_
  refine g_iloadN C d1_6 (pc' := 7) rfl rfl ?_
  refine g_iushr C d1_7 (pc' := 8) rfl ?_
  refine g_iconst C (z := (1 : Int32)) d1_8 (pc' := 9) rfl rfl ?_
  refine g_iand C d1_9 (pc' := 10) rfl ?_
  refine g_if_eq C d1_10 (by decide) (pc' := 22) (by decide) (pcN := 13) rfl (fun q10 => ?_) (fun q10 => ?_)
  · refine g_iloadN C d1_22 (pc' := 23) rfl rfl ?_
    refine g_i2c C d1_23 (pc' := 24) rfl ?_
    exact g_retN C (t := .char) rfl (by simp) d1_24 ⟨rfl, _, rfl, (c_i2c _).2⟩ (by decide) (by decide)
  · refine g_bipush C (z := (48 : Int32)) d1_13 (pc' := 15) rfl rfl ?_
    refine g_iloadN C d1_15 (pc' := 16) rfl rfl ?_
    refine g_bipush C (z := (10 : Int32)) d1_16 (pc' := 18) rfl rfl ?_
    refine g_irem C d1_18 (pc' := 19) rfl (by decide) ?_
    refine g_iadd C d1_19 (pc' := 20) rfl ?_
    refine g_i2c C d1_20 (pc' := 21) rfl ?_
    exact g_retN C (t := .char) rfl (by simp) d1_21 ⟨rfl, _, rfl, (c_i2c _).2⟩ (by decide) (by decide)
def R_s_dig : Room := ({ frames := 0, cells := 0, slots := 0, locals := 0 } : Room)
set_option maxRecDepth 65536 in
set_option maxHeartbeats 40000000 in
theorem s_dig {l : Launch} {Z : State} {a0 : Array Value} (hw : ∀ d ∈ tables_1, d.before a0 Z = true) {h0 : Heap} {n0 : Nat} (p : Int32)  :
    Met l Z (⟨"com/example/longhaul/longhaul/IsoMessageIsTypePinLaw", "digit", "(C)Z"⟩ : MethodName) method_3_code 1 (some .boolean) R_s_dig n0 h0 #[(.int p)] (fun r h => h0 = h ∧ ∃ i : Int32, r = some (.int i) ∧ (i = 1 ∧ own_dig p ∨ i = 0 ∧ ¬ own_dig p)) := by
  refine Met.intro (plainFor_of_name (by first | (simp [plainName, overriddenIn, x]; done) | decide +kernel)) (fun m => (show entryFrame m #[(.int p)] 1 = mkF m 0 #[.val (.int p)] [] from by first | rfl | (simp [entryFrame, mkF, argsToLocals, Value.category]; done))) (fun w Y C => ?_)
  refine g_iloadN C d17_0 (pc' := 1) rfl rfl ?_
  refine g_bipush C (z := (48 : Int32)) d17_1 (pc' := 3) rfl rfl ?_
  refine g_icmp_lt C d17_3 (by decide) (pc' := 16) (by decide) (pcN := 6) rfl (fun q3 => ?_) (fun q3 => ?_)
  · have z3 : p.toInt < 48 := Int32.lt_iff_toInt_lt.mp q3
    refine g_iconst C (z := (0 : Int32)) d17_16 (pc' := 17) rfl rfl ?_
    exact g_retN C (t := .boolean) rfl (by simp) d17_17 ⟨rfl, 0, rfl, Or.inr ⟨rfl, by unfold own_dig; omega⟩⟩ (by decide) (by decide)
  · have z3 : ¬ p.toInt < 48 := fun a => q3 (Int32.lt_iff_toInt_lt.mpr a)
    refine g_iloadN C d17_6 (pc' := 7) rfl rfl ?_
    refine g_bipush C (z := (57 : Int32)) d17_7 (pc' := 9) rfl rfl ?_
    refine g_icmp_gt C d17_9 (by decide) (pc' := 16) (by decide) (pcN := 12) rfl (fun q9 => ?_) (fun q9 => ?_)
    · have z9 : 57 < p.toInt := Int32.lt_iff_toInt_lt.mp q9
      refine g_iconst C (z := (0 : Int32)) d17_16 (pc' := 17) rfl rfl ?_
      exact g_retN C (t := .boolean) rfl (by simp) d17_17 ⟨rfl, 0, rfl, Or.inr ⟨rfl, by unfold own_dig; omega⟩⟩ (by decide) (by decide)
    · have z9 : ¬ 57 < p.toInt := fun a => q9 (Int32.lt_iff_toInt_lt.mpr a)
      refine g_iconst C (z := (1 : Int32)) d17_12 (pc' := 13) rfl rfl ?_
      refine g_goto C d17_13 (by decide) (pc' := 17) (by decide) ?_
      exact g_retN C (t := .boolean) rfl (by simp) d17_17 ⟨rfl, 1, rfl, Or.inl ⟨rfl, by unfold own_dig; omega⟩⟩ (by decide) (by decide)
def R_s_text : Room := ({ frames := 6, cells := 4, slots := 28, locals := 88 } : Room)
set_option maxRecDepth 65536 in
set_option maxHeartbeats 40000000 in
theorem s_text {l : Launch} {Z : State} {a0 : Array Value} (hw : ∀ d ∈ tables_1, d.before a0 Z = true) {h0 : Heap} {n0 : Nat} (p c0 c1 c2 c3 c4 c5 G1 : Int32) (hb : own_bnd c0 c1 c2 c3 c4 c5) (O2 : Sta Z Z.heap "java/lang/String" "COMPACT_STRINGS" "Z" (.int G1)) (P5 : ¬ G1 = 0) (OA : Sta Z Z.heap "java/lang/StringUTF16" "$assertionsDisabled" "Z" (.int 1)) (OH : Sta Z Z.heap "java/lang/StringUTF16" "HI_BYTE_SHIFT" "I" (.int 0)) (OL : Sta Z Z.heap "java/lang/StringUTF16" "LO_BYTE_SHIFT" "I" (.int 8)) (X : Old Z n0 h0) (hh : Jvm.Lit.constHeld Z "java/lang/String" 7) (hcw : Jvm.Lit.compactW.before a0 Z = true) :
    MetWI l Z (⟨"com/example/longhaul/longhaul/IsoMessageIsTypePinLaw", "text", "(ICCCCCC)Ljava/lang/String;"⟩ : MethodName) method_5_code 7 (some (.object "java/lang/String")) R_s_text n0 h0 #[(.int p), (.int c0), (.int c1), (.int c2), (.int c3), (.int c4), (.int c5)] (fun v h => ∃ (x : Addr) (n : Nat) (cf : Nat → Int32), v = some (.ref x) ∧ Old Z n0 h ∧ own_Str Z h x n cf ∧ n ≤ 6 ∧ (∀ j, j < n → 0 ≤ (cf j).toInt ∧ (cf j).toInt < 65536) ∧ (p = 4 ∧ n = 4 ∧ cf 0 = c0 ∧ cf 1 = c1 ∧ cf 2 = c2 ∧ cf 3 = c3 ∨ ¬ p = 4 ∧ ¬ n = 4)) := by
  refine MetWI.intro (plainFor_of_name (by first | (simp [plainName, overriddenIn, x]; done) | decide +kernel)) (fun m => (show entryFrame m #[(.int p), (.int c0), (.int c1), (.int c2), (.int c3), (.int c4), (.int c5)] 7 = mkF m 0 #[.val (.int p), .val (.int c0), .val (.int c1), .val (.int c2), .val (.int c3), .val (.int c4), .val (.int c5)] [] from by first | rfl | (simp [entryFrame, mkF, argsToLocals, Value.category]; done))) (fun w Y C CW hH hI => ?_)
  refine g_iloadN C d2_0 (pc' := 1) rfl rfl ?_
  refine g_if_ne C d2_1 (by decide) (pc' := 15) (by decide) (pcN := 4) rfl (fun q1 => ?_) (fun q1 => ?_)
  · refine g_iloadN C d2_15 (pc' := 16) rfl rfl ?_
    refine g_iconst C (z := (1 : Int32)) d2_16 (pc' := 17) rfl rfl ?_
    refine g_icmp_ne C d2_17 (by decide) (pc' := 35) (by decide) (pcN := 20) rfl (fun q17 => ?_) (fun q17 => ?_)
    · refine g_iloadN C d2_35 (pc' := 36) rfl rfl ?_
      refine g_iconst C (z := (2 : Int32)) d2_36 (pc' := 37) rfl rfl ?_
      refine g_icmp_ne C d2_37 (by decide) (pc' := 59) (by decide) (pcN := 40) rfl (fun q37 => ?_) (fun q37 => ?_)
      · refine g_iloadN C d2_59 (pc' := 60) rfl rfl ?_
        refine g_iconst C (z := (3 : Int32)) d2_60 (pc' := 61) rfl rfl ?_
        refine g_icmp_ne C d2_61 (by decide) (pc' := 87) (by decide) (pcN := 64) rfl (fun q61 => ?_) (fun q61 => ?_)
        · refine g_iloadN C d2_87 (pc' := 88) rfl rfl ?_
          refine g_iconst C (z := (4 : Int32)) d2_88 (pc' := 89) rfl rfl ?_
          refine g_icmp_ne C d2_89 (by decide) (pc' := 120) (by decide) (pcN := 92) rfl (fun q89 => ?_) (fun q89 => ?_)
          · refine g_iloadN C d2_120 (pc' := 121) rfl rfl ?_
            refine g_iconst C (z := (5 : Int32)) d2_121 (pc' := 122) rfl rfl ?_
            refine g_icmp_ne C d2_122 (by decide) (pc' := 158) (by decide) (pcN := 125) rfl (fun q122 => ?_) (fun q122 => ?_)
            · refine g_new C (hw _ (List.mem_of_getElem? (i := 8) rfl)) (hw _ (List.mem_of_getElem? (i := 9) rfl)) (hw _ (List.mem_of_getElem? (i := 10) rfl)) d2_158 (pc' := 161) rfl (k' := 1) (n' := 4) rfl rfl (by decide) (by decide) ?_
              intro h29 b29 E29 fb29 gb29 A29 D29
              have X := X.ext E29
              have F29_value : Fld Z h29 b29 "java/lang/String" "value" "[B" .null := D29 (Or.inr (hw _ (List.mem_of_getElem? (i := 24) rfl))) (ty := (.array .byte)) (by decide)
              have F29_coder : Fld Z h29 b29 "java/lang/String" "coder" "B" (.int (0 : Int32)) := D29 (Or.inr (hw _ (List.mem_of_getElem? (i := 25) rfl))) (ty := .byte) (by decide)
              refine g_dup C d2_161 (pc' := 162) rfl rfl ?_
              refine g_bipush C (z := (6 : Int32)) d2_162 (pc' := 164) rfl rfl ?_
              refine g_newarr C (ad := "[C") (cap := 6) (hw _ (List.mem_of_getElem? (i := 11) rfl)) d2_164 (pc' := 166) rfl rfl (by decide) (by decide) (by decide) (k' := 2) (n' := 10) rfl rfl (by decide) (by decide) rfl ?_
              intro h30 b30 E30 fb30 gb30 A30
              have ne_b29_b30 : b29 ≠ b30 := Nat.ne_of_lt (Nat.lt_of_lt_of_le A29.lt fb30)
              have X := X.ext E30
              have A29 := A29.ext E30
              have F29_value := F29_value.ext E30
              have F29_coder := F29_coder.ext E30
              have A30 : Arf Z h30 b30 "[C" .char (6 : Int32) (fun _ => (.int 0)) := A30
              refine g_dup C d2_166 (pc' := 167) rfl rfl ?_
              refine g_iconst C (z := (0 : Int32)) d2_167 (pc' := 168) rfl rfl ?_
              refine g_iloadN C d2_168 (pc' := 169) rfl rfl ?_
              refine g_castore C A30 (by decide) (by decide) d2_169 (pc' := 170) rfl gb30 (fun h31 W32 A30' => ?_)
              have X := X.wr W32 gb30
              have A29 := A29.wr W32
              have F29_value := F29_value.other W32 (Or.inl ne_b29_b30)
              have F29_coder := F29_coder.other W32 (Or.inl ne_b29_b30)
              have A30 : Arf Z h31 b30 "[C" .char (6 : Int32) (upd (fun _ => (.int 0)) 0 (.int (nar .char c0))) := A30'
              refine g_dup C d2_170 (pc' := 171) rfl rfl ?_
              refine g_iconst C (z := (1 : Int32)) d2_171 (pc' := 172) rfl rfl ?_
              refine g_iloadN C d2_172 (pc' := 173) rfl rfl ?_
              refine g_castore C A30 (by decide) (by decide) d2_173 (pc' := 174) rfl gb30 (fun h33 W34 A30' => ?_)
              have X := X.wr W34 gb30
              have A29 := A29.wr W34
              have F29_value := F29_value.other W34 (Or.inl ne_b29_b30)
              have F29_coder := F29_coder.other W34 (Or.inl ne_b29_b30)
              have A30 : Arf Z h33 b30 "[C" .char (6 : Int32) (upd (upd (fun _ => (.int 0)) 0 (.int (nar .char c0))) 1 (.int (nar .char c1))) := A30'
              refine g_dup C d2_174 (pc' := 175) rfl rfl ?_
              refine g_iconst C (z := (2 : Int32)) d2_175 (pc' := 176) rfl rfl ?_
              refine g_iloadN C d2_176 (pc' := 177) rfl rfl ?_
              refine g_castore C A30 (by decide) (by decide) d2_177 (pc' := 178) rfl gb30 (fun h35 W36 A30' => ?_)
              have X := X.wr W36 gb30
              have A29 := A29.wr W36
              have F29_value := F29_value.other W36 (Or.inl ne_b29_b30)
              have F29_coder := F29_coder.other W36 (Or.inl ne_b29_b30)
              have A30 : Arf Z h35 b30 "[C" .char (6 : Int32) (upd (upd (upd (fun _ => (.int 0)) 0 (.int (nar .char c0))) 1 (.int (nar .char c1))) 2 (.int (nar .char c2))) := A30'
              refine g_dup C d2_178 (pc' := 179) rfl rfl ?_
              refine g_iconst C (z := (3 : Int32)) d2_179 (pc' := 180) rfl rfl ?_
              refine g_iload C d2_180 (pc' := 182) rfl rfl ?_
              refine g_castore C A30 (by decide) (by decide) d2_182 (pc' := 183) rfl gb30 (fun h37 W38 A30' => ?_)
              have X := X.wr W38 gb30
              have A29 := A29.wr W38
              have F29_value := F29_value.other W38 (Or.inl ne_b29_b30)
              have F29_coder := F29_coder.other W38 (Or.inl ne_b29_b30)
              have A30 : Arf Z h37 b30 "[C" .char (6 : Int32) (upd (upd (upd (upd (fun _ => (.int 0)) 0 (.int (nar .char c0))) 1 (.int (nar .char c1))) 2 (.int (nar .char c2))) 3 (.int (nar .char c3))) := A30'
              refine g_dup C d2_183 (pc' := 184) rfl rfl ?_
              refine g_iconst C (z := (4 : Int32)) d2_184 (pc' := 185) rfl rfl ?_
              refine g_iload C d2_185 (pc' := 187) rfl rfl ?_
              refine g_castore C A30 (by decide) (by decide) d2_187 (pc' := 188) rfl gb30 (fun h39 W40 A30' => ?_)
              have X := X.wr W40 gb30
              have A29 := A29.wr W40
              have F29_value := F29_value.other W40 (Or.inl ne_b29_b30)
              have F29_coder := F29_coder.other W40 (Or.inl ne_b29_b30)
              have A30 : Arf Z h39 b30 "[C" .char (6 : Int32) (upd (upd (upd (upd (upd (fun _ => (.int 0)) 0 (.int (nar .char c0))) 1 (.int (nar .char c1))) 2 (.int (nar .char c2))) 3 (.int (nar .char c3))) 4 (.int (nar .char c4))) := A30'
              refine g_dup C d2_188 (pc' := 189) rfl rfl ?_
              refine g_iconst C (z := (5 : Int32)) d2_189 (pc' := 190) rfl rfl ?_
              refine g_iload C d2_190 (pc' := 192) rfl rfl ?_
              refine g_castore C A30 (by decide) (by decide) d2_192 (pc' := 193) rfl gb30 (fun h41 W42 A30' => ?_)
              have X := X.wr W42 gb30
              have A29 := A29.wr W42
              have F29_value := F29_value.other W42 (Or.inl ne_b29_b30)
              have F29_coder := F29_coder.other W42 (Or.inl ne_b29_b30)
              have A30 : Arf Z h41 b30 "[C" .char (6 : Int32) (upd (upd (upd (upd (upd (upd (fun _ => (.int 0)) 0 (.int (nar .char c0))) 1 (.int (nar .char c1))) 2 (.int (nar .char c2))) 3 (.int (nar .char c3))) 4 (.int (nar .char c4))) 5 (.int (nar .char c5))) := A30'
              have A : Arf Z h41 b30 "[C" .char (Int32.ofNat 6) (fun j => .int (own_cf c0 c1 c2 c3 c4 c5 j)) := A30.congr fun j hj => by
                have hj : j < 6 := hj
                obtain rfl | rfl | rfl | rfl | rfl | rfl : j = 0 ∨ j = 1 ∨ j = 2 ∨ j = 3 ∨ j = 4 ∨ j = 5 := by omega
                · exact congrArg Value.int (own_nc hb.1)
                · exact congrArg Value.int (own_nc hb.2.1)
                · exact congrArg Value.int (own_nc hb.2.2.1)
                · exact congrArg Value.int (own_nc hb.2.2.2.1)
                · exact congrArg Value.int (own_nc hb.2.2.2.2.1)
                · exact congrArg Value.int (own_nc hb.2.2.2.2.2)
              refine g_special (rm := R_s_i) (a := b29) C (y := (⟨"java/lang/String", "<init>", "([C)V"⟩ : MethodName)) rfl (hw _ (List.mem_of_getElem? (i := 12) rfl)) (hw _ (List.mem_of_getElem? (i := 13) rfl)) (hw _ (List.mem_of_getElem? (i := 14) rfl)) (by decide) d2_193 (pc' := 196) rfl (argsL := [(.ref b30)]) (rest := [(.ref b29)]) (lenOf pd_8 rfl) rfl (W := 1) (Nat.le_of_eq rfl) rfl (fun hn => Met.back (rm := R_s_i) (s_i hw b29 b30 6 (own_cf c0 c1 c2 c3 c4 c5) G1 F29_value F29_coder A29 gb29 A (by omega) (by omega) (own_cfb hb) O2 P5 OA OH OL X) hn C.hZ (hw _ (List.mem_of_getElem? (i := 14) rfl)) (hw _ (List.mem_of_getElem? (i := 10) rfl)) (by decide) (by decide)) (k' := 4) (n' := 28) rfl rfl (by decide) (by decide) ?_
              rintro _ h43 ⟨rfl, Ki, hs⟩
              have X := X.keep Ki (allS gb29 all0)
              show Go w l _ n0 _ h43 4 28 196 #[.val (.int p), .val (.int c0), .val (.int c1), .val (.int c2), .val (.int c3), .val (.int c4), .val (.int c5)] [(.ref b29)]
              exact g_retA C rfl (t := (.object "java/lang/String")) rfl rfl d2_196 ⟨b29, 6, own_cf c0 c1 c2 c3 c4 c5, rfl, X, hs, by omega, own_cfb hb, Or.inr ⟨fun e => q89 e, by omega⟩⟩ (by decide) (by decide)
            · refine g_new C (hw _ (List.mem_of_getElem? (i := 8) rfl)) (hw _ (List.mem_of_getElem? (i := 9) rfl)) (hw _ (List.mem_of_getElem? (i := 10) rfl)) d2_125 (pc' := 128) rfl (k' := 1) (n' := 4) rfl rfl (by decide) (by decide) ?_
              intro h44 b44 E44 fb44 gb44 A44 D44
              have X := X.ext E44
              have F44_value : Fld Z h44 b44 "java/lang/String" "value" "[B" .null := D44 (Or.inr (hw _ (List.mem_of_getElem? (i := 24) rfl))) (ty := (.array .byte)) (by decide)
              have F44_coder : Fld Z h44 b44 "java/lang/String" "coder" "B" (.int (0 : Int32)) := D44 (Or.inr (hw _ (List.mem_of_getElem? (i := 25) rfl))) (ty := .byte) (by decide)
              refine g_dup C d2_128 (pc' := 129) rfl rfl ?_
              refine g_iconst C (z := (5 : Int32)) d2_129 (pc' := 130) rfl rfl ?_
              refine g_newarr C (ad := "[C") (cap := 5) (hw _ (List.mem_of_getElem? (i := 11) rfl)) d2_130 (pc' := 132) rfl rfl (by decide) (by decide) (by decide) (k' := 2) (n' := 9) rfl rfl (by decide) (by decide) rfl ?_
              intro h45 b45 E45 fb45 gb45 A45
              have ne_b44_b45 : b44 ≠ b45 := Nat.ne_of_lt (Nat.lt_of_lt_of_le A44.lt fb45)
              have X := X.ext E45
              have A44 := A44.ext E45
              have F44_value := F44_value.ext E45
              have F44_coder := F44_coder.ext E45
              have A45 : Arf Z h45 b45 "[C" .char (5 : Int32) (fun _ => (.int 0)) := A45
              refine g_dup C d2_132 (pc' := 133) rfl rfl ?_
              refine g_iconst C (z := (0 : Int32)) d2_133 (pc' := 134) rfl rfl ?_
              refine g_iloadN C d2_134 (pc' := 135) rfl rfl ?_
              refine g_castore C A45 (by decide) (by decide) d2_135 (pc' := 136) rfl gb45 (fun h46 W47 A45' => ?_)
              have X := X.wr W47 gb45
              have A44 := A44.wr W47
              have F44_value := F44_value.other W47 (Or.inl ne_b44_b45)
              have F44_coder := F44_coder.other W47 (Or.inl ne_b44_b45)
              have A45 : Arf Z h46 b45 "[C" .char (5 : Int32) (upd (fun _ => (.int 0)) 0 (.int (nar .char c0))) := A45'
              refine g_dup C d2_136 (pc' := 137) rfl rfl ?_
              refine g_iconst C (z := (1 : Int32)) d2_137 (pc' := 138) rfl rfl ?_
              refine g_iloadN C d2_138 (pc' := 139) rfl rfl ?_
              refine g_castore C A45 (by decide) (by decide) d2_139 (pc' := 140) rfl gb45 (fun h48 W49 A45' => ?_)
              have X := X.wr W49 gb45
              have A44 := A44.wr W49
              have F44_value := F44_value.other W49 (Or.inl ne_b44_b45)
              have F44_coder := F44_coder.other W49 (Or.inl ne_b44_b45)
              have A45 : Arf Z h48 b45 "[C" .char (5 : Int32) (upd (upd (fun _ => (.int 0)) 0 (.int (nar .char c0))) 1 (.int (nar .char c1))) := A45'
              refine g_dup C d2_140 (pc' := 141) rfl rfl ?_
              refine g_iconst C (z := (2 : Int32)) d2_141 (pc' := 142) rfl rfl ?_
              refine g_iloadN C d2_142 (pc' := 143) rfl rfl ?_
              refine g_castore C A45 (by decide) (by decide) d2_143 (pc' := 144) rfl gb45 (fun h50 W51 A45' => ?_)
              have X := X.wr W51 gb45
              have A44 := A44.wr W51
              have F44_value := F44_value.other W51 (Or.inl ne_b44_b45)
              have F44_coder := F44_coder.other W51 (Or.inl ne_b44_b45)
              have A45 : Arf Z h50 b45 "[C" .char (5 : Int32) (upd (upd (upd (fun _ => (.int 0)) 0 (.int (nar .char c0))) 1 (.int (nar .char c1))) 2 (.int (nar .char c2))) := A45'
              refine g_dup C d2_144 (pc' := 145) rfl rfl ?_
              refine g_iconst C (z := (3 : Int32)) d2_145 (pc' := 146) rfl rfl ?_
              refine g_iload C d2_146 (pc' := 148) rfl rfl ?_
              refine g_castore C A45 (by decide) (by decide) d2_148 (pc' := 149) rfl gb45 (fun h52 W53 A45' => ?_)
              have X := X.wr W53 gb45
              have A44 := A44.wr W53
              have F44_value := F44_value.other W53 (Or.inl ne_b44_b45)
              have F44_coder := F44_coder.other W53 (Or.inl ne_b44_b45)
              have A45 : Arf Z h52 b45 "[C" .char (5 : Int32) (upd (upd (upd (upd (fun _ => (.int 0)) 0 (.int (nar .char c0))) 1 (.int (nar .char c1))) 2 (.int (nar .char c2))) 3 (.int (nar .char c3))) := A45'
              refine g_dup C d2_149 (pc' := 150) rfl rfl ?_
              refine g_iconst C (z := (4 : Int32)) d2_150 (pc' := 151) rfl rfl ?_
              refine g_iload C d2_151 (pc' := 153) rfl rfl ?_
              refine g_castore C A45 (by decide) (by decide) d2_153 (pc' := 154) rfl gb45 (fun h54 W55 A45' => ?_)
              have X := X.wr W55 gb45
              have A44 := A44.wr W55
              have F44_value := F44_value.other W55 (Or.inl ne_b44_b45)
              have F44_coder := F44_coder.other W55 (Or.inl ne_b44_b45)
              have A45 : Arf Z h54 b45 "[C" .char (5 : Int32) (upd (upd (upd (upd (upd (fun _ => (.int 0)) 0 (.int (nar .char c0))) 1 (.int (nar .char c1))) 2 (.int (nar .char c2))) 3 (.int (nar .char c3))) 4 (.int (nar .char c4))) := A45'
              have A : Arf Z h54 b45 "[C" .char (Int32.ofNat 5) (fun j => .int (own_cf c0 c1 c2 c3 c4 c5 j)) := A45.congr fun j hj => by
                have hj : j < 5 := hj
                obtain rfl | rfl | rfl | rfl | rfl : j = 0 ∨ j = 1 ∨ j = 2 ∨ j = 3 ∨ j = 4 := by omega
                · exact congrArg Value.int (own_nc hb.1)
                · exact congrArg Value.int (own_nc hb.2.1)
                · exact congrArg Value.int (own_nc hb.2.2.1)
                · exact congrArg Value.int (own_nc hb.2.2.2.1)
                · exact congrArg Value.int (own_nc hb.2.2.2.2.1)
              refine g_special (rm := R_s_i) (a := b44) C (y := (⟨"java/lang/String", "<init>", "([C)V"⟩ : MethodName)) rfl (hw _ (List.mem_of_getElem? (i := 12) rfl)) (hw _ (List.mem_of_getElem? (i := 13) rfl)) (hw _ (List.mem_of_getElem? (i := 14) rfl)) (by decide) d2_154 (pc' := 157) rfl (argsL := [(.ref b45)]) (rest := [(.ref b44)]) (lenOf pd_8 rfl) rfl (W := 1) (Nat.le_of_eq rfl) rfl (fun hn => Met.back (rm := R_s_i) (s_i hw b44 b45 5 (own_cf c0 c1 c2 c3 c4 c5) G1 F44_value F44_coder A44 gb44 A (by omega) (by omega) (own_cfb hb) O2 P5 OA OH OL X) hn C.hZ (hw _ (List.mem_of_getElem? (i := 14) rfl)) (hw _ (List.mem_of_getElem? (i := 10) rfl)) (by decide) (by decide)) (k' := 4) (n' := 27) rfl rfl (by decide) (by decide) ?_
              rintro _ h56 ⟨rfl, Ki, hs⟩
              have X := X.keep Ki (allS gb44 all0)
              show Go w l _ n0 _ h56 4 27 157 #[.val (.int p), .val (.int c0), .val (.int c1), .val (.int c2), .val (.int c3), .val (.int c4), .val (.int c5)] [(.ref b44)]
              exact g_retA C rfl (t := (.object "java/lang/String")) rfl rfl d2_157 ⟨b44, 5, own_cf c0 c1 c2 c3 c4 c5, rfl, X, hs, by omega, own_cfb hb, Or.inr ⟨fun e => q89 e, by omega⟩⟩ (by decide) (by decide)
          · refine g_new C (hw _ (List.mem_of_getElem? (i := 8) rfl)) (hw _ (List.mem_of_getElem? (i := 9) rfl)) (hw _ (List.mem_of_getElem? (i := 10) rfl)) d2_92 (pc' := 95) rfl (k' := 1) (n' := 4) rfl rfl (by decide) (by decide) ?_
            intro h57 b57 E57 fb57 gb57 A57 D57
            have X := X.ext E57
            have F57_value : Fld Z h57 b57 "java/lang/String" "value" "[B" .null := D57 (Or.inr (hw _ (List.mem_of_getElem? (i := 24) rfl))) (ty := (.array .byte)) (by decide)
            have F57_coder : Fld Z h57 b57 "java/lang/String" "coder" "B" (.int (0 : Int32)) := D57 (Or.inr (hw _ (List.mem_of_getElem? (i := 25) rfl))) (ty := .byte) (by decide)
            refine g_dup C d2_95 (pc' := 96) rfl rfl ?_
            refine g_iconst C (z := (4 : Int32)) d2_96 (pc' := 97) rfl rfl ?_
            refine g_newarr C (ad := "[C") (cap := 4) (hw _ (List.mem_of_getElem? (i := 11) rfl)) d2_97 (pc' := 99) rfl rfl (by decide) (by decide) (by decide) (k' := 2) (n' := 8) rfl rfl (by decide) (by decide) rfl ?_
            intro h58 b58 E58 fb58 gb58 A58
            have ne_b57_b58 : b57 ≠ b58 := Nat.ne_of_lt (Nat.lt_of_lt_of_le A57.lt fb58)
            have X := X.ext E58
            have A57 := A57.ext E58
            have F57_value := F57_value.ext E58
            have F57_coder := F57_coder.ext E58
            have A58 : Arf Z h58 b58 "[C" .char (4 : Int32) (fun _ => (.int 0)) := A58
            refine g_dup C d2_99 (pc' := 100) rfl rfl ?_
            refine g_iconst C (z := (0 : Int32)) d2_100 (pc' := 101) rfl rfl ?_
            refine g_iloadN C d2_101 (pc' := 102) rfl rfl ?_
            refine g_castore C A58 (by decide) (by decide) d2_102 (pc' := 103) rfl gb58 (fun h59 W60 A58' => ?_)
            have X := X.wr W60 gb58
            have A57 := A57.wr W60
            have F57_value := F57_value.other W60 (Or.inl ne_b57_b58)
            have F57_coder := F57_coder.other W60 (Or.inl ne_b57_b58)
            have A58 : Arf Z h59 b58 "[C" .char (4 : Int32) (upd (fun _ => (.int 0)) 0 (.int (nar .char c0))) := A58'
            refine g_dup C d2_103 (pc' := 104) rfl rfl ?_
            refine g_iconst C (z := (1 : Int32)) d2_104 (pc' := 105) rfl rfl ?_
            refine g_iloadN C d2_105 (pc' := 106) rfl rfl ?_
            refine g_castore C A58 (by decide) (by decide) d2_106 (pc' := 107) rfl gb58 (fun h61 W62 A58' => ?_)
            have X := X.wr W62 gb58
            have A57 := A57.wr W62
            have F57_value := F57_value.other W62 (Or.inl ne_b57_b58)
            have F57_coder := F57_coder.other W62 (Or.inl ne_b57_b58)
            have A58 : Arf Z h61 b58 "[C" .char (4 : Int32) (upd (upd (fun _ => (.int 0)) 0 (.int (nar .char c0))) 1 (.int (nar .char c1))) := A58'
            refine g_dup C d2_107 (pc' := 108) rfl rfl ?_
            refine g_iconst C (z := (2 : Int32)) d2_108 (pc' := 109) rfl rfl ?_
            refine g_iloadN C d2_109 (pc' := 110) rfl rfl ?_
            refine g_castore C A58 (by decide) (by decide) d2_110 (pc' := 111) rfl gb58 (fun h63 W64 A58' => ?_)
            have X := X.wr W64 gb58
            have A57 := A57.wr W64
            have F57_value := F57_value.other W64 (Or.inl ne_b57_b58)
            have F57_coder := F57_coder.other W64 (Or.inl ne_b57_b58)
            have A58 : Arf Z h63 b58 "[C" .char (4 : Int32) (upd (upd (upd (fun _ => (.int 0)) 0 (.int (nar .char c0))) 1 (.int (nar .char c1))) 2 (.int (nar .char c2))) := A58'
            refine g_dup C d2_111 (pc' := 112) rfl rfl ?_
            refine g_iconst C (z := (3 : Int32)) d2_112 (pc' := 113) rfl rfl ?_
            refine g_iload C d2_113 (pc' := 115) rfl rfl ?_
            refine g_castore C A58 (by decide) (by decide) d2_115 (pc' := 116) rfl gb58 (fun h65 W66 A58' => ?_)
            have X := X.wr W66 gb58
            have A57 := A57.wr W66
            have F57_value := F57_value.other W66 (Or.inl ne_b57_b58)
            have F57_coder := F57_coder.other W66 (Or.inl ne_b57_b58)
            have A58 : Arf Z h65 b58 "[C" .char (4 : Int32) (upd (upd (upd (upd (fun _ => (.int 0)) 0 (.int (nar .char c0))) 1 (.int (nar .char c1))) 2 (.int (nar .char c2))) 3 (.int (nar .char c3))) := A58'
            have A : Arf Z h65 b58 "[C" .char (Int32.ofNat 4) (fun j => .int (own_cf c0 c1 c2 c3 c4 c5 j)) := A58.congr fun j hj => by
              have hj : j < 4 := hj
              obtain rfl | rfl | rfl | rfl : j = 0 ∨ j = 1 ∨ j = 2 ∨ j = 3 := by omega
              · exact congrArg Value.int (own_nc hb.1)
              · exact congrArg Value.int (own_nc hb.2.1)
              · exact congrArg Value.int (own_nc hb.2.2.1)
              · exact congrArg Value.int (own_nc hb.2.2.2.1)
            refine g_special (rm := R_s_i) (a := b57) C (y := (⟨"java/lang/String", "<init>", "([C)V"⟩ : MethodName)) rfl (hw _ (List.mem_of_getElem? (i := 12) rfl)) (hw _ (List.mem_of_getElem? (i := 13) rfl)) (hw _ (List.mem_of_getElem? (i := 14) rfl)) (by decide) d2_116 (pc' := 119) rfl (argsL := [(.ref b58)]) (rest := [(.ref b57)]) (lenOf pd_8 rfl) rfl (W := 1) (Nat.le_of_eq rfl) rfl (fun hn => Met.back (rm := R_s_i) (s_i hw b57 b58 4 (own_cf c0 c1 c2 c3 c4 c5) G1 F57_value F57_coder A57 gb57 A (by omega) (by omega) (own_cfb hb) O2 P5 OA OH OL X) hn C.hZ (hw _ (List.mem_of_getElem? (i := 14) rfl)) (hw _ (List.mem_of_getElem? (i := 10) rfl)) (by decide) (by decide)) (k' := 4) (n' := 26) rfl rfl (by decide) (by decide) ?_
            rintro _ h67 ⟨rfl, Ki, hs⟩
            have X := X.keep Ki (allS gb57 all0)
            show Go w l _ n0 _ h67 4 26 119 #[.val (.int p), .val (.int c0), .val (.int c1), .val (.int c2), .val (.int c3), .val (.int c4), .val (.int c5)] [(.ref b57)]
            exact g_retA C rfl (t := (.object "java/lang/String")) rfl rfl d2_119 ⟨b57, 4, own_cf c0 c1 c2 c3 c4 c5, rfl, X, hs, by omega, own_cfb hb, Or.inl ⟨q89, rfl, rfl, rfl, rfl, rfl⟩⟩ (by decide) (by decide)
        · refine g_new C (hw _ (List.mem_of_getElem? (i := 8) rfl)) (hw _ (List.mem_of_getElem? (i := 9) rfl)) (hw _ (List.mem_of_getElem? (i := 10) rfl)) d2_64 (pc' := 67) rfl (k' := 1) (n' := 4) rfl rfl (by decide) (by decide) ?_
          intro h68 b68 E68 fb68 gb68 A68 D68
          have X := X.ext E68
          have F68_value : Fld Z h68 b68 "java/lang/String" "value" "[B" .null := D68 (Or.inr (hw _ (List.mem_of_getElem? (i := 24) rfl))) (ty := (.array .byte)) (by decide)
          have F68_coder : Fld Z h68 b68 "java/lang/String" "coder" "B" (.int (0 : Int32)) := D68 (Or.inr (hw _ (List.mem_of_getElem? (i := 25) rfl))) (ty := .byte) (by decide)
          refine g_dup C d2_67 (pc' := 68) rfl rfl ?_
          refine g_iconst C (z := (3 : Int32)) d2_68 (pc' := 69) rfl rfl ?_
          refine g_newarr C (ad := "[C") (cap := 3) (hw _ (List.mem_of_getElem? (i := 11) rfl)) d2_69 (pc' := 71) rfl rfl (by decide) (by decide) (by decide) (k' := 2) (n' := 7) rfl rfl (by decide) (by decide) rfl ?_
          intro h69 b69 E69 fb69 gb69 A69
          have ne_b68_b69 : b68 ≠ b69 := Nat.ne_of_lt (Nat.lt_of_lt_of_le A68.lt fb69)
          have X := X.ext E69
          have A68 := A68.ext E69
          have F68_value := F68_value.ext E69
          have F68_coder := F68_coder.ext E69
          have A69 : Arf Z h69 b69 "[C" .char (3 : Int32) (fun _ => (.int 0)) := A69
          refine g_dup C d2_71 (pc' := 72) rfl rfl ?_
          refine g_iconst C (z := (0 : Int32)) d2_72 (pc' := 73) rfl rfl ?_
          refine g_iloadN C d2_73 (pc' := 74) rfl rfl ?_
          refine g_castore C A69 (by decide) (by decide) d2_74 (pc' := 75) rfl gb69 (fun h70 W71 A69' => ?_)
          have X := X.wr W71 gb69
          have A68 := A68.wr W71
          have F68_value := F68_value.other W71 (Or.inl ne_b68_b69)
          have F68_coder := F68_coder.other W71 (Or.inl ne_b68_b69)
          have A69 : Arf Z h70 b69 "[C" .char (3 : Int32) (upd (fun _ => (.int 0)) 0 (.int (nar .char c0))) := A69'
          refine g_dup C d2_75 (pc' := 76) rfl rfl ?_
          refine g_iconst C (z := (1 : Int32)) d2_76 (pc' := 77) rfl rfl ?_
          refine g_iloadN C d2_77 (pc' := 78) rfl rfl ?_
          refine g_castore C A69 (by decide) (by decide) d2_78 (pc' := 79) rfl gb69 (fun h72 W73 A69' => ?_)
          have X := X.wr W73 gb69
          have A68 := A68.wr W73
          have F68_value := F68_value.other W73 (Or.inl ne_b68_b69)
          have F68_coder := F68_coder.other W73 (Or.inl ne_b68_b69)
          have A69 : Arf Z h72 b69 "[C" .char (3 : Int32) (upd (upd (fun _ => (.int 0)) 0 (.int (nar .char c0))) 1 (.int (nar .char c1))) := A69'
          refine g_dup C d2_79 (pc' := 80) rfl rfl ?_
          refine g_iconst C (z := (2 : Int32)) d2_80 (pc' := 81) rfl rfl ?_
          refine g_iloadN C d2_81 (pc' := 82) rfl rfl ?_
          refine g_castore C A69 (by decide) (by decide) d2_82 (pc' := 83) rfl gb69 (fun h74 W75 A69' => ?_)
          have X := X.wr W75 gb69
          have A68 := A68.wr W75
          have F68_value := F68_value.other W75 (Or.inl ne_b68_b69)
          have F68_coder := F68_coder.other W75 (Or.inl ne_b68_b69)
          have A69 : Arf Z h74 b69 "[C" .char (3 : Int32) (upd (upd (upd (fun _ => (.int 0)) 0 (.int (nar .char c0))) 1 (.int (nar .char c1))) 2 (.int (nar .char c2))) := A69'
          have A : Arf Z h74 b69 "[C" .char (Int32.ofNat 3) (fun j => .int (own_cf c0 c1 c2 c3 c4 c5 j)) := A69.congr fun j hj => by
            have hj : j < 3 := hj
            obtain rfl | rfl | rfl : j = 0 ∨ j = 1 ∨ j = 2 := by omega
            · exact congrArg Value.int (own_nc hb.1)
            · exact congrArg Value.int (own_nc hb.2.1)
            · exact congrArg Value.int (own_nc hb.2.2.1)
          refine g_special (rm := R_s_i) (a := b68) C (y := (⟨"java/lang/String", "<init>", "([C)V"⟩ : MethodName)) rfl (hw _ (List.mem_of_getElem? (i := 12) rfl)) (hw _ (List.mem_of_getElem? (i := 13) rfl)) (hw _ (List.mem_of_getElem? (i := 14) rfl)) (by decide) d2_83 (pc' := 86) rfl (argsL := [(.ref b69)]) (rest := [(.ref b68)]) (lenOf pd_8 rfl) rfl (W := 1) (Nat.le_of_eq rfl) rfl (fun hn => Met.back (rm := R_s_i) (s_i hw b68 b69 3 (own_cf c0 c1 c2 c3 c4 c5) G1 F68_value F68_coder A68 gb68 A (by omega) (by omega) (own_cfb hb) O2 P5 OA OH OL X) hn C.hZ (hw _ (List.mem_of_getElem? (i := 14) rfl)) (hw _ (List.mem_of_getElem? (i := 10) rfl)) (by decide) (by decide)) (k' := 4) (n' := 25) rfl rfl (by decide) (by decide) ?_
          rintro _ h76 ⟨rfl, Ki, hs⟩
          have X := X.keep Ki (allS gb68 all0)
          show Go w l _ n0 _ h76 4 25 86 #[.val (.int p), .val (.int c0), .val (.int c1), .val (.int c2), .val (.int c3), .val (.int c4), .val (.int c5)] [(.ref b68)]
          exact g_retA C rfl (t := (.object "java/lang/String")) rfl rfl d2_86 ⟨b68, 3, own_cf c0 c1 c2 c3 c4 c5, rfl, X, hs, by omega, own_cfb hb, Or.inr ⟨fun e => absurd (q61.symm.trans e) (by decide), by omega⟩⟩ (by decide) (by decide)
      · refine g_new C (hw _ (List.mem_of_getElem? (i := 8) rfl)) (hw _ (List.mem_of_getElem? (i := 9) rfl)) (hw _ (List.mem_of_getElem? (i := 10) rfl)) d2_40 (pc' := 43) rfl (k' := 1) (n' := 4) rfl rfl (by decide) (by decide) ?_
        intro h77 b77 E77 fb77 gb77 A77 D77
        have X := X.ext E77
        have F77_value : Fld Z h77 b77 "java/lang/String" "value" "[B" .null := D77 (Or.inr (hw _ (List.mem_of_getElem? (i := 24) rfl))) (ty := (.array .byte)) (by decide)
        have F77_coder : Fld Z h77 b77 "java/lang/String" "coder" "B" (.int (0 : Int32)) := D77 (Or.inr (hw _ (List.mem_of_getElem? (i := 25) rfl))) (ty := .byte) (by decide)
        refine g_dup C d2_43 (pc' := 44) rfl rfl ?_
        refine g_iconst C (z := (2 : Int32)) d2_44 (pc' := 45) rfl rfl ?_
        refine g_newarr C (ad := "[C") (cap := 2) (hw _ (List.mem_of_getElem? (i := 11) rfl)) d2_45 (pc' := 47) rfl rfl (by decide) (by decide) (by decide) (k' := 2) (n' := 6) rfl rfl (by decide) (by decide) rfl ?_
        intro h78 b78 E78 fb78 gb78 A78
        have ne_b77_b78 : b77 ≠ b78 := Nat.ne_of_lt (Nat.lt_of_lt_of_le A77.lt fb78)
        have X := X.ext E78
        have A77 := A77.ext E78
        have F77_value := F77_value.ext E78
        have F77_coder := F77_coder.ext E78
        have A78 : Arf Z h78 b78 "[C" .char (2 : Int32) (fun _ => (.int 0)) := A78
        refine g_dup C d2_47 (pc' := 48) rfl rfl ?_
        refine g_iconst C (z := (0 : Int32)) d2_48 (pc' := 49) rfl rfl ?_
        refine g_iloadN C d2_49 (pc' := 50) rfl rfl ?_
        refine g_castore C A78 (by decide) (by decide) d2_50 (pc' := 51) rfl gb78 (fun h79 W80 A78' => ?_)
        have X := X.wr W80 gb78
        have A77 := A77.wr W80
        have F77_value := F77_value.other W80 (Or.inl ne_b77_b78)
        have F77_coder := F77_coder.other W80 (Or.inl ne_b77_b78)
        have A78 : Arf Z h79 b78 "[C" .char (2 : Int32) (upd (fun _ => (.int 0)) 0 (.int (nar .char c0))) := A78'
        refine g_dup C d2_51 (pc' := 52) rfl rfl ?_
        refine g_iconst C (z := (1 : Int32)) d2_52 (pc' := 53) rfl rfl ?_
        refine g_iloadN C d2_53 (pc' := 54) rfl rfl ?_
        refine g_castore C A78 (by decide) (by decide) d2_54 (pc' := 55) rfl gb78 (fun h81 W82 A78' => ?_)
        have X := X.wr W82 gb78
        have A77 := A77.wr W82
        have F77_value := F77_value.other W82 (Or.inl ne_b77_b78)
        have F77_coder := F77_coder.other W82 (Or.inl ne_b77_b78)
        have A78 : Arf Z h81 b78 "[C" .char (2 : Int32) (upd (upd (fun _ => (.int 0)) 0 (.int (nar .char c0))) 1 (.int (nar .char c1))) := A78'
        have A : Arf Z h81 b78 "[C" .char (Int32.ofNat 2) (fun j => .int (own_cf c0 c1 c2 c3 c4 c5 j)) := A78.congr fun j hj => by
          have hj : j < 2 := hj
          obtain rfl | rfl : j = 0 ∨ j = 1 := by omega
          · exact congrArg Value.int (own_nc hb.1)
          · exact congrArg Value.int (own_nc hb.2.1)
        refine g_special (rm := R_s_i) (a := b77) C (y := (⟨"java/lang/String", "<init>", "([C)V"⟩ : MethodName)) rfl (hw _ (List.mem_of_getElem? (i := 12) rfl)) (hw _ (List.mem_of_getElem? (i := 13) rfl)) (hw _ (List.mem_of_getElem? (i := 14) rfl)) (by decide) d2_55 (pc' := 58) rfl (argsL := [(.ref b78)]) (rest := [(.ref b77)]) (lenOf pd_8 rfl) rfl (W := 1) (Nat.le_of_eq rfl) rfl (fun hn => Met.back (rm := R_s_i) (s_i hw b77 b78 2 (own_cf c0 c1 c2 c3 c4 c5) G1 F77_value F77_coder A77 gb77 A (by omega) (by omega) (own_cfb hb) O2 P5 OA OH OL X) hn C.hZ (hw _ (List.mem_of_getElem? (i := 14) rfl)) (hw _ (List.mem_of_getElem? (i := 10) rfl)) (by decide) (by decide)) (k' := 4) (n' := 24) rfl rfl (by decide) (by decide) ?_
        rintro _ h83 ⟨rfl, Ki, hs⟩
        have X := X.keep Ki (allS gb77 all0)
        show Go w l _ n0 _ h83 4 24 58 #[.val (.int p), .val (.int c0), .val (.int c1), .val (.int c2), .val (.int c3), .val (.int c4), .val (.int c5)] [(.ref b77)]
        exact g_retA C rfl (t := (.object "java/lang/String")) rfl rfl d2_58 ⟨b77, 2, own_cf c0 c1 c2 c3 c4 c5, rfl, X, hs, by omega, own_cfb hb, Or.inr ⟨fun e => absurd (q37.symm.trans e) (by decide), by omega⟩⟩ (by decide) (by decide)
    · refine g_new C (hw _ (List.mem_of_getElem? (i := 8) rfl)) (hw _ (List.mem_of_getElem? (i := 9) rfl)) (hw _ (List.mem_of_getElem? (i := 10) rfl)) d2_20 (pc' := 23) rfl (k' := 1) (n' := 4) rfl rfl (by decide) (by decide) ?_
      intro h84 b84 E84 fb84 gb84 A84 D84
      have X := X.ext E84
      have F84_value : Fld Z h84 b84 "java/lang/String" "value" "[B" .null := D84 (Or.inr (hw _ (List.mem_of_getElem? (i := 24) rfl))) (ty := (.array .byte)) (by decide)
      have F84_coder : Fld Z h84 b84 "java/lang/String" "coder" "B" (.int (0 : Int32)) := D84 (Or.inr (hw _ (List.mem_of_getElem? (i := 25) rfl))) (ty := .byte) (by decide)
      refine g_dup C d2_23 (pc' := 24) rfl rfl ?_
      refine g_iconst C (z := (1 : Int32)) d2_24 (pc' := 25) rfl rfl ?_
      refine g_newarr C (ad := "[C") (cap := 1) (hw _ (List.mem_of_getElem? (i := 11) rfl)) d2_25 (pc' := 27) rfl rfl (by decide) (by decide) (by decide) (k' := 2) (n' := 5) rfl rfl (by decide) (by decide) rfl ?_
      intro h85 b85 E85 fb85 gb85 A85
      have ne_b84_b85 : b84 ≠ b85 := Nat.ne_of_lt (Nat.lt_of_lt_of_le A84.lt fb85)
      have X := X.ext E85
      have A84 := A84.ext E85
      have F84_value := F84_value.ext E85
      have F84_coder := F84_coder.ext E85
      have A85 : Arf Z h85 b85 "[C" .char (1 : Int32) (fun _ => (.int 0)) := A85
      refine g_dup C d2_27 (pc' := 28) rfl rfl ?_
      refine g_iconst C (z := (0 : Int32)) d2_28 (pc' := 29) rfl rfl ?_
      refine g_iloadN C d2_29 (pc' := 30) rfl rfl ?_
      refine g_castore C A85 (by decide) (by decide) d2_30 (pc' := 31) rfl gb85 (fun h86 W87 A85' => ?_)
      have X := X.wr W87 gb85
      have A84 := A84.wr W87
      have F84_value := F84_value.other W87 (Or.inl ne_b84_b85)
      have F84_coder := F84_coder.other W87 (Or.inl ne_b84_b85)
      have A85 : Arf Z h86 b85 "[C" .char (1 : Int32) (upd (fun _ => (.int 0)) 0 (.int (nar .char c0))) := A85'
      have A : Arf Z h86 b85 "[C" .char (Int32.ofNat 1) (fun j => .int (own_cf c0 c1 c2 c3 c4 c5 j)) := A85.congr fun j hj => by
        have hj : j < 1 := hj
        obtain rfl : j = 0 := by omega
        · exact congrArg Value.int (own_nc hb.1)
      refine g_special (rm := R_s_i) (a := b84) C (y := (⟨"java/lang/String", "<init>", "([C)V"⟩ : MethodName)) rfl (hw _ (List.mem_of_getElem? (i := 12) rfl)) (hw _ (List.mem_of_getElem? (i := 13) rfl)) (hw _ (List.mem_of_getElem? (i := 14) rfl)) (by decide) d2_31 (pc' := 34) rfl (argsL := [(.ref b85)]) (rest := [(.ref b84)]) (lenOf pd_8 rfl) rfl (W := 1) (Nat.le_of_eq rfl) rfl (fun hn => Met.back (rm := R_s_i) (s_i hw b84 b85 1 (own_cf c0 c1 c2 c3 c4 c5) G1 F84_value F84_coder A84 gb84 A (by omega) (by omega) (own_cfb hb) O2 P5 OA OH OL X) hn C.hZ (hw _ (List.mem_of_getElem? (i := 14) rfl)) (hw _ (List.mem_of_getElem? (i := 10) rfl)) (by decide) (by decide)) (k' := 4) (n' := 23) rfl rfl (by decide) (by decide) ?_
      rintro _ h88 ⟨rfl, Ki, hs⟩
      have X := X.keep Ki (allS gb84 all0)
      show Go w l _ n0 _ h88 4 23 34 #[.val (.int p), .val (.int c0), .val (.int c1), .val (.int c2), .val (.int c3), .val (.int c4), .val (.int c5)] [(.ref b84)]
      exact g_retA C rfl (t := (.object "java/lang/String")) rfl rfl d2_34 ⟨b84, 1, own_cf c0 c1 c2 c3 c4 c5, rfl, X, hs, by omega, own_cfb hb, Or.inr ⟨fun e => absurd (q17.symm.trans e) (by decide), by omega⟩⟩ (by decide) (by decide)
  · refine g_new C (hw _ (List.mem_of_getElem? (i := 8) rfl)) (hw _ (List.mem_of_getElem? (i := 9) rfl)) (hw _ (List.mem_of_getElem? (i := 10) rfl)) d2_4 (pc' := 7) rfl (k' := 1) (n' := 4) rfl rfl (by decide) (by decide) ?_
    intro h89 b89 E89 fb89 gb89 A89 D89
    have X := X.ext E89
    have F89_value : Fld Z h89 b89 "java/lang/String" "value" "[B" .null := D89 (Or.inr (hw _ (List.mem_of_getElem? (i := 24) rfl))) (ty := (.array .byte)) (by decide)
    have F89_coder : Fld Z h89 b89 "java/lang/String" "coder" "B" (.int (0 : Int32)) := D89 (Or.inr (hw _ (List.mem_of_getElem? (i := 25) rfl))) (ty := .byte) (by decide)
    refine g_dup C d2_7 (pc' := 8) rfl rfl ?_
    refine g_iconst C (z := (0 : Int32)) d2_8 (pc' := 9) rfl rfl ?_
    refine g_newarr C (ad := "[C") (cap := 0) (hw _ (List.mem_of_getElem? (i := 11) rfl)) d2_9 (pc' := 11) rfl rfl (by decide) (by decide) (by decide) (k' := 2) (n' := 4) rfl rfl (by decide) (by decide) rfl ?_
    intro h90 b90 E90 fb90 gb90 A90
    have ne_b89_b90 : b89 ≠ b90 := Nat.ne_of_lt (Nat.lt_of_lt_of_le A89.lt fb90)
    have X := X.ext E90
    have A89 := A89.ext E90
    have F89_value := F89_value.ext E90
    have F89_coder := F89_coder.ext E90
    have A90 : Arf Z h90 b90 "[C" .char (0 : Int32) (fun _ => (.int 0)) := A90
    refine g_specialS (rm := R_s_i0) (a := b89) C CW (y := (⟨"java/lang/String", "<init>", "([C)V"⟩ : MethodName)) rfl (hw _ (List.mem_of_getElem? (i := 12) rfl)) (hw _ (List.mem_of_getElem? (i := 13) rfl)) (hw _ (List.mem_of_getElem? (i := 14) rfl)) (by decide) d2_11 (pc' := 14) rfl (argsL := [(.ref b90)]) (rest := [(.ref b89)]) (lenOf pd_8 rfl) rfl (W := 1) (Nat.le_of_eq rfl) rfl (fun hn => MetWI.back (rm := R_s_i0) (s_i0 hw b89 b90 F89_value F89_coder A89 gb89 A90 X hh hcw) hn C.hZ hI (hw _ (List.mem_of_getElem? (i := 14) rfl)) (hw _ (List.mem_of_getElem? (i := 10) rfl)) (by decide) (by decide)) (k' := 4) (n' := 8) rfl rfl (by decide) (by decide) ?_
    rintro w _ h9 C CW ⟨rfl, X, hs⟩
    show Go w l _ n0 _ h9 4 8 14 #[.val (.int p), .val (.int c0), .val (.int c1), .val (.int c2), .val (.int c3), .val (.int c4), .val (.int c5)] [(.ref b89)]
    exact g_retA C rfl (t := (.object "java/lang/String")) rfl rfl d2_14 ⟨b89, 0, fun _ => 0, rfl, X, hs, by omega, fun j hj => absurd hj (Nat.not_lt_zero j), Or.inr ⟨fun e => absurd (q1.symm.trans e) (by decide), by omega⟩⟩ (by decide) (by decide)
def R_s_latL : Room := ({ frames := 0, cells := 0, slots := 0, locals := 0 } : Room)
set_option maxRecDepth 65536 in
set_option maxHeartbeats 40000000 in
theorem s_latL {l : Launch} {Z : State} {a0 : Array Value} (hw : ∀ d ∈ tables_1, d.before a0 Z = true) {h0 : Heap} {n0 : Nat} (a t : Addr) (n : Nat) (cf : Nat → Int32) (G1 : Int32) (G3 : Value) (E : Exa Z h0 a "java/lang/String") (Fc : Fld Z h0 a "java/lang/String" "coder" "B" (.int 0)) (Fv : Fld Z h0 a "java/lang/String" "value" "[B" (.ref t)) (A : Arw Z h0 t .byte (Int32.ofNat n) (own_lat cf)) (h6 : n ≤ 6) (hc : ∀ j, j < n → 0 ≤ (cf j).toInt ∧ (cf j).toInt < 65536) (O2 : Sta Z Z.heap "java/lang/String" "COMPACT_STRINGS" "Z" (.int G1)) (P5 : ¬ G1 = 0) (OA : Sta Z Z.heap "java/lang/StringUTF16" "$assertionsDisabled" "Z" (.int 1)) (OH : Sta Z Z.heap "java/lang/StringUTF16" "HI_BYTE_SHIFT" "I" (.int 0)) (OL : Sta Z Z.heap "java/lang/StringUTF16" "LO_BYTE_SHIFT" "I" (.int 8)) (X : Old Z n0 h0) (O4 : Sta Z Z.heap "jdk/internal/util/Preconditions" "SIOOBE_FORMATTER" "Ljava/util/function/BiFunction;" G3) (rG3 : G3.isRef = true) (hL : ∀ j, j < n → ¬ 255 < (cf j).toInt) :
    Met l Z (⟨"java/lang/String", "isLatin1", "()Z"⟩ : MethodName) jdk_42_method_154_code 1 (some .boolean) R_s_latL n0 h0 #[(.ref a)] (fun r h => r = some (.int 1) ∧ h0 = h) := by
  refine Met.intro (plainFor_of_name (by first | (simp [plainName, overriddenIn, x]; done) | decide +kernel)) (fun m => (show entryFrame m #[(.ref a)] 1 = mkF m 0 #[.val (.ref a)] [] from by first | rfl | (simp [entryFrame, mkF, argsToLocals, Value.category]; done))) (fun w Y C => ?_)
  refine g_getS (host := "") C (Or.inl (hw _ (List.mem_of_getElem? (i := 48) rfl))) Via.refl (O2.ext X.2) d19_0 (pc' := 3) rfl ?_
  refine g_if_eq C d19_3 (by decide) (pc' := 17) (by decide) (pcN := 6) rfl (fun q => absurd q P5) (fun _ => ?_)
  refine g_aloadN C d19_6 (pc' := 7) rfl rfl rfl ?_
  refine g_getF (host := "") C (Or.inl (hw _ (List.mem_of_getElem? (i := 29) rfl))) Via.refl Fc d19_7 (pc' := 10) rfl ?_
  refine g_if_ne C d19_10 (by decide) (pc' := 17) (by decide) (pcN := 13) rfl (fun q => absurd rfl q) (fun _ => ?_)
  refine g_iconst C (z := (1 : Int32)) d19_13 (pc' := 14) rfl rfl ?_
  refine g_goto C d19_14 (by decide) (pc' := 18) (by decide) ?_
  exact g_retN C (t := .boolean) rfl (by simp) d19_18 ⟨rfl, rfl⟩ (by decide) (by decide)
def R_s_codL : Room := ({ frames := 0, cells := 0, slots := 0, locals := 0 } : Room)
set_option maxRecDepth 65536 in
set_option maxHeartbeats 40000000 in
theorem s_codL {l : Launch} {Z : State} {a0 : Array Value} (hw : ∀ d ∈ tables_1, d.before a0 Z = true) {h0 : Heap} {n0 : Nat} (a t : Addr) (n : Nat) (cf : Nat → Int32) (G1 : Int32) (G3 : Value) (E : Exa Z h0 a "java/lang/String") (Fc : Fld Z h0 a "java/lang/String" "coder" "B" (.int 0)) (Fv : Fld Z h0 a "java/lang/String" "value" "[B" (.ref t)) (A : Arw Z h0 t .byte (Int32.ofNat n) (own_lat cf)) (h6 : n ≤ 6) (hc : ∀ j, j < n → 0 ≤ (cf j).toInt ∧ (cf j).toInt < 65536) (O2 : Sta Z Z.heap "java/lang/String" "COMPACT_STRINGS" "Z" (.int G1)) (P5 : ¬ G1 = 0) (OA : Sta Z Z.heap "java/lang/StringUTF16" "$assertionsDisabled" "Z" (.int 1)) (OH : Sta Z Z.heap "java/lang/StringUTF16" "HI_BYTE_SHIFT" "I" (.int 0)) (OL : Sta Z Z.heap "java/lang/StringUTF16" "LO_BYTE_SHIFT" "I" (.int 8)) (X : Old Z n0 h0) (O4 : Sta Z Z.heap "jdk/internal/util/Preconditions" "SIOOBE_FORMATTER" "Ljava/util/function/BiFunction;" G3) (rG3 : G3.isRef = true) (hL : ∀ j, j < n → ¬ 255 < (cf j).toInt) :
    Met l Z (⟨"java/lang/String", "coder", "()B"⟩ : MethodName) jdk_42_method_152_code 1 (some .byte) R_s_codL n0 h0 #[(.ref a)] (fun r h => r = some (.int 0) ∧ h0 = h) := by
  refine Met.intro (plainFor_of_name (by first | (simp [plainName, overriddenIn, x]; done) | decide +kernel)) (fun m => (show entryFrame m #[(.ref a)] 1 = mkF m 0 #[.val (.ref a)] [] from by first | rfl | (simp [entryFrame, mkF, argsToLocals, Value.category]; done))) (fun w Y C => ?_)
  refine g_getS (host := "") C (Or.inl (hw _ (List.mem_of_getElem? (i := 48) rfl))) Via.refl (O2.ext X.2) d8_0 (pc' := 3) rfl ?_
  refine g_if_eq C d8_3 (by decide) (pc' := 13) (by decide) (pcN := 6) rfl (fun q => absurd q P5) (fun _ => ?_)
  refine g_aloadN C d8_6 (pc' := 7) rfl rfl rfl ?_
  refine g_getF (host := "") C (Or.inl (hw _ (List.mem_of_getElem? (i := 29) rfl))) Via.refl Fc d8_7 (pc' := 10) rfl ?_
  refine g_goto C d8_10 (by decide) (pc' := 14) (by decide) ?_
  exact g_retN C (t := .byte) rfl (by simp) d8_14 ⟨rfl, rfl⟩ (by decide) (by decide)
def R_s_lenL : Room := ({ frames := 1, cells := 0, slots := 0, locals := 13 } : Room)
set_option maxRecDepth 65536 in
set_option maxHeartbeats 40000000 in
theorem s_lenL {l : Launch} {Z : State} {a0 : Array Value} (hw : ∀ d ∈ tables_1, d.before a0 Z = true) {h0 : Heap} {n0 : Nat} (a t : Addr) (n : Nat) (cf : Nat → Int32) (G1 : Int32) (G3 : Value) (E : Exa Z h0 a "java/lang/String") (Fc : Fld Z h0 a "java/lang/String" "coder" "B" (.int 0)) (Fv : Fld Z h0 a "java/lang/String" "value" "[B" (.ref t)) (A : Arw Z h0 t .byte (Int32.ofNat n) (own_lat cf)) (h6 : n ≤ 6) (hc : ∀ j, j < n → 0 ≤ (cf j).toInt ∧ (cf j).toInt < 65536) (O2 : Sta Z Z.heap "java/lang/String" "COMPACT_STRINGS" "Z" (.int G1)) (P5 : ¬ G1 = 0) (OA : Sta Z Z.heap "java/lang/StringUTF16" "$assertionsDisabled" "Z" (.int 1)) (OH : Sta Z Z.heap "java/lang/StringUTF16" "HI_BYTE_SHIFT" "I" (.int 0)) (OL : Sta Z Z.heap "java/lang/StringUTF16" "LO_BYTE_SHIFT" "I" (.int 8)) (X : Old Z n0 h0) (O4 : Sta Z Z.heap "jdk/internal/util/Preconditions" "SIOOBE_FORMATTER" "Ljava/util/function/BiFunction;" G3) (rG3 : G3.isRef = true) (hL : ∀ j, j < n → ¬ 255 < (cf j).toInt) :
    Met l Z (⟨"java/lang/String", "length", "()I"⟩ : MethodName) jdk_42_method_54_code 1 (some .int) R_s_lenL n0 h0 #[(.ref a)] (fun r h => r = some (.int (Int32.ofNat n)) ∧ h0 = h) := by
  refine Met.intro (plainFor_of_name (by first | (simp [plainName, overriddenIn, x]; done) | decide +kernel)) (fun m => (show entryFrame m #[(.ref a)] 1 = mkF m 0 #[.val (.ref a)] [] from by first | rfl | (simp [entryFrame, mkF, argsToLocals, Value.category]; done))) (fun w Y C => ?_)
  refine g_aloadN C d7_0 (pc' := 1) rfl rfl rfl ?_
  refine g_getF (host := "") C (Or.inl (hw _ (List.mem_of_getElem? (i := 28) rfl))) Via.refl Fv d7_1 (pc' := 4) rfl ?_
  refine g_lenW C A d7_4 (pc' := 5) rfl ?_
  refine g_aloadN C d7_5 (pc' := 6) rfl rfl rfl ?_
  refine g_virtual (rm := R_s_codL) (a := a) C (y := (⟨"java/lang/String", "coder", "()B"⟩ : MethodName)) (y' := (⟨"java/lang/String", "coder", "()B"⟩ : MethodName)) (hw _ (List.mem_of_getElem? (i := 43) rfl)) (hw _ (List.mem_of_getElem? (i := 44) rfl)) (g_nf C (hw _ (List.mem_of_getElem? (i := 46) rfl))) (hw _ (List.mem_of_getElem? (i := 46) rfl)) (hw _ (List.mem_of_getElem? (i := 45) rfl)) (by decide) E d7_6 (pc' := 9) rfl (argsL := []) (rest := [(.int (Int32.ofNat n))]) (lenOf pd_9 rfl) rfl (W := 1) (Nat.le_of_eq rfl) rfl (fun hn => Met.back (rm := R_s_codL) (s_codL hw a t n cf G1 G3 E Fc Fv A h6 hc O2 P5 OA OH OL X O4 rG3 hL) hn C.hZ (hw _ (List.mem_of_getElem? (i := 47) rfl)) (hw _ (List.mem_of_getElem? (i := 10) rfl)) (by decide) (by decide)) (k' := 0) (n' := 0) rfl rfl (by decide) (by decide) ?_
  rintro _ _ ⟨rfl, rfl⟩
  show Go w l _ n0 _ h0 0 0 9 #[.val (.ref a)] [(.int (0 : Int32)), (.int (Int32.ofNat n))]
  refine g_ishr C d7_9 (pc' := 10) rfl ?_
  exact g_retI C rfl d7_10 ⟨by rw [own_sh0], rfl⟩ (by decide) (by decide)
def R_s_pci : Room := ({ frames := 0, cells := 0, slots := 0, locals := 0 } : Room)
set_option maxRecDepth 65536 in
set_option maxHeartbeats 40000000 in
theorem s_pci {l : Launch} {Z : State} {a0 : Array Value} (hw : ∀ d ∈ tables_1, d.before a0 Z = true) {h0 : Heap} {n0 : Nat} (n i : Nat) (G3 : Value) (hi : i < n) (h6 : n ≤ 6) (rG3 : G3.isRef = true) :
    Met l Z (⟨"jdk/internal/util/Preconditions", "checkIndex", "(IILjava/util/function/BiFunction;)I"⟩ : MethodName) jdk_41_method_11_code 3 (some .int) R_s_pci n0 h0 #[(.int (Int32.ofNat i)), (.int (Int32.ofNat n)), G3] (fun r h => r = some (.int (Int32.ofNat i)) ∧ h0 = h) := by
  refine Met.intro (plainFor_of_name (by first | (simp [plainName, overriddenIn, x]; done) | decide +kernel)) (fun m => (show entryFrame m #[(.int (Int32.ofNat i)), (.int (Int32.ofNat n)), G3] 3 = mkF m 0 #[.val (.int (Int32.ofNat i)), .val (.int (Int32.ofNat n)), .val G3] [] from by first | rfl | (simp [entryFrame, mkF, argsToLocals, Value.category]; done) | (rcases ref_cases rG3 with rfl | ⟨_, rfl⟩ <;> rfl))) (fun w Y C => ?_)
  refine g_iloadN C d24_0 (pc' := 1) rfl rfl ?_
  refine g_if_lt C d24_1 (by decide) (pc' := 9) (by decide) (pcN := 4) rfl (fun q => absurd q (n32_nn (by omega))) (fun _ => ?_)
  refine g_iloadN C d24_4 (pc' := 5) rfl rfl ?_
  refine g_iloadN C d24_5 (pc' := 6) rfl rfl ?_
  refine g_icmp_lt C d24_6 (by decide) (pc' := 16) (by decide) (pcN := 9) rfl (fun _ => ?_) (fun q => absurd (n32_lt hi (by omega)) q)
  refine g_iloadN C d24_16 (pc' := 17) rfl rfl ?_
  exact g_retI C rfl d24_17 ⟨rfl, rfl⟩ (by decide) (by decide)
def R_s_sci : Room := ({ frames := 1, cells := 0, slots := 0, locals := 14 } : Room)
set_option maxRecDepth 65536 in
set_option maxHeartbeats 40000000 in
theorem s_sci {l : Launch} {Z : State} {a0 : Array Value} (hw : ∀ d ∈ tables_1, d.before a0 Z = true) {h0 : Heap} {n0 : Nat} (n i : Nat) (G3 : Value) (hi : i < n) (h6 : n ≤ 6) (O4 : Sta Z Z.heap "jdk/internal/util/Preconditions" "SIOOBE_FORMATTER" "Ljava/util/function/BiFunction;" G3) (rG3 : G3.isRef = true) (X : Old Z n0 h0) :
    Met l Z (⟨"java/lang/String", "checkIndex", "(II)V"⟩ : MethodName) jdk_42_method_155_code 2 none R_s_sci n0 h0 #[(.int (Int32.ofNat i)), (.int (Int32.ofNat n))] (fun r h => r = none ∧ h0 = h) := by
  refine Met.intro (plainFor_of_name (by first | (simp [plainName, overriddenIn, x]; done) | decide +kernel)) (fun m => (show entryFrame m #[(.int (Int32.ofNat i)), (.int (Int32.ofNat n))] 2 = mkF m 0 #[.val (.int (Int32.ofNat i)), .val (.int (Int32.ofNat n))] [] from by first | rfl | (simp [entryFrame, mkF, argsToLocals, Value.category]; done))) (fun w Y C => ?_)
  refine g_iloadN C d23_0 (pc' := 1) rfl rfl ?_
  refine g_iloadN C d23_1 (pc' := 2) rfl rfl ?_
  refine g_getS (host := "") C (Or.inl (hw _ (List.mem_of_getElem? (i := 106) rfl))) Via.refl (O4.ext X.2) d23_2 (pc' := 5) rfl ?_
  refine g_static (rm := R_s_pci) C (y := (⟨"jdk/internal/util/Preconditions", "checkIndex", "(IILjava/util/function/BiFunction;)I"⟩ : MethodName)) (hw _ (List.mem_of_getElem? (i := 108) rfl)) (hw _ (List.mem_of_getElem? (i := 109) rfl)) (hw _ (List.mem_of_getElem? (i := 107) rfl)) (hw _ (List.mem_of_getElem? (i := 110) rfl)) (by decide) d23_5 (pc' := 8) rfl (argsL := [(.int (Int32.ofNat i)), (.int (Int32.ofNat n)), G3]) (rest := []) (lenOf pd_10 rfl) rfl (W := 0) (Nat.le_of_eq rfl) rfl (fun hn => Met.back (rm := R_s_pci) (s_pci hw n i G3 hi h6 rG3) hn C.hZ (hw _ (List.mem_of_getElem? (i := 110) rfl)) (hw _ (List.mem_of_getElem? (i := 107) rfl)) (by decide) (by decide)) (k' := 0) (n' := 0) rfl rfl (by decide) (by decide) ?_
  rintro _ _ ⟨rfl, rfl⟩
  show Go w l _ n0 _ h0 0 0 8 #[.val (.int (Int32.ofNat i)), .val (.int (Int32.ofNat n))] [(.int (Int32.ofNat i))]
  refine g_pop C d23_8 (pc' := 9) rfl rfl ?_
  exact g_ret C rfl d23_9 ⟨rfl, rfl⟩ (by decide) (by decide)
def R_s_uci : Room := ({ frames := 2, cells := 0, slots := 0, locals := 27 } : Room)
set_option maxRecDepth 65536 in
set_option maxHeartbeats 40000000 in
theorem s_uci {l : Launch} {Z : State} {a0 : Array Value} (hw : ∀ d ∈ tables_1, d.before a0 Z = true) {h0 : Heap} {n0 : Nat} (t : Addr) (n i : Nat) (cf : Nat → Int32) (G3 : Value) (A : Arw Z h0 t .byte (Int32.ofNat (2 * n)) (own_utf cf)) (hi : i < n) (h6 : n ≤ 6) (O4 : Sta Z Z.heap "jdk/internal/util/Preconditions" "SIOOBE_FORMATTER" "Ljava/util/function/BiFunction;" G3) (rG3 : G3.isRef = true) (X : Old Z n0 h0) :
    Met l Z (⟨"java/lang/StringUTF16", "checkIndex", "(I[B)V"⟩ : MethodName) jdk_52_method_91_code 2 none R_s_uci n0 h0 #[(.int (Int32.ofNat i)), (.ref t)] (fun r h => r = none ∧ h0 = h) := by
  refine Met.intro (plainFor_of_name (by first | (simp [plainName, overriddenIn, x]; done) | decide +kernel)) (fun m => (show entryFrame m #[(.int (Int32.ofNat i)), (.ref t)] 2 = mkF m 0 #[.val (.int (Int32.ofNat i)), .val (.ref t)] [] from by first | rfl | (simp [entryFrame, mkF, argsToLocals, Value.category]; done))) (fun w Y C => ?_)
  refine g_iloadN C d21_0 (pc' := 1) rfl rfl ?_
  refine g_aloadN C d21_1 (pc' := 2) rfl rfl rfl ?_
  refine g_static (rm := R_s_ulen) C (y := (⟨"java/lang/StringUTF16", "length", "([B)I"⟩ : MethodName)) (hw _ (List.mem_of_getElem? (i := 100) rfl)) (hw _ (List.mem_of_getElem? (i := 101) rfl)) (hw _ (List.mem_of_getElem? (i := 51) rfl)) (hw _ (List.mem_of_getElem? (i := 102) rfl)) (by decide) d21_2 (pc' := 5) rfl (argsL := [(.ref t)]) (rest := [(.int (Int32.ofNat i))]) (lenOf pd_11 rfl) rfl (W := 1) (Nat.le_of_eq rfl) rfl (fun hn => Met.back (rm := R_s_ulen) (s_ulen hw t n cf A h6) hn C.hZ (hw _ (List.mem_of_getElem? (i := 102) rfl)) (hw _ (List.mem_of_getElem? (i := 51) rfl)) (by decide) (by decide)) (k' := 0) (n' := 0) rfl rfl (by decide) (by decide) ?_
  rintro _ _ ⟨rfl, rfl⟩
  show Go w l _ n0 _ h0 0 0 5 #[.val (.int (Int32.ofNat i)), .val (.ref t)] [(.int (Int32.ofNat n)), (.int (Int32.ofNat i))]
  refine g_static (rm := R_s_sci) C (y := (⟨"java/lang/String", "checkIndex", "(II)V"⟩ : MethodName)) (hw _ (List.mem_of_getElem? (i := 103) rfl)) (hw _ (List.mem_of_getElem? (i := 104) rfl)) (hw _ (List.mem_of_getElem? (i := 10) rfl)) (hw _ (List.mem_of_getElem? (i := 105) rfl)) (by decide) d21_5 (pc' := 8) rfl (argsL := [(.int (Int32.ofNat i)), (.int (Int32.ofNat n))]) (rest := []) (lenOf pd_12 rfl) rfl (W := 0) (Nat.le_of_eq rfl) rfl (fun hn => Met.back (rm := R_s_sci) (s_sci hw n i G3 hi h6 O4 rG3 X) hn C.hZ (hw _ (List.mem_of_getElem? (i := 105) rfl)) (hw _ (List.mem_of_getElem? (i := 10) rfl)) (by decide) (by decide)) (k' := 0) (n' := 0) rfl rfl (by decide) (by decide) ?_
  rintro _ _ ⟨rfl, rfl⟩
  show Go w l _ n0 _ h0 0 0 8 #[.val (.int (Int32.ofNat i)), .val (.ref t)] []
  exact g_ret C rfl d21_8 ⟨rfl, rfl⟩ (by decide) (by decide)
def R_s_uch : Room := ({ frames := 3, cells := 0, slots := 0, locals := 40 } : Room)
set_option maxRecDepth 65536 in
set_option maxHeartbeats 40000000 in
theorem s_uch {l : Launch} {Z : State} {a0 : Array Value} (hw : ∀ d ∈ tables_1, d.before a0 Z = true) {h0 : Heap} {n0 : Nat} (t : Addr) (n i : Nat) (cf : Nat → Int32) (G3 : Value) (A : Arw Z h0 t .byte (Int32.ofNat (2 * n)) (own_utf cf)) (hi : i < n) (h6 : n ≤ 6) (hc : ∀ j, j < n → 0 ≤ (cf j).toInt ∧ (cf j).toInt < 65536) (OA : Sta Z Z.heap "java/lang/StringUTF16" "$assertionsDisabled" "Z" (.int 1)) (OH : Sta Z Z.heap "java/lang/StringUTF16" "HI_BYTE_SHIFT" "I" (.int 0)) (OL : Sta Z Z.heap "java/lang/StringUTF16" "LO_BYTE_SHIFT" "I" (.int 8)) (X : Old Z n0 h0) (O4 : Sta Z Z.heap "jdk/internal/util/Preconditions" "SIOOBE_FORMATTER" "Ljava/util/function/BiFunction;" G3) (rG3 : G3.isRef = true) :
    Met l Z (⟨"java/lang/StringUTF16", "charAt", "([BI)C"⟩ : MethodName) jdk_52_method_83_code 2 (some .char) R_s_uch n0 h0 #[(.ref t), (.int (Int32.ofNat i))] (fun r h => r = some (.int (cf i)) ∧ h0 = h) := by
  refine Met.intro (plainFor_of_name (by first | (simp [plainName, overriddenIn, x]; done) | decide +kernel)) (fun m => (show entryFrame m #[(.ref t), (.int (Int32.ofNat i))] 2 = mkF m 0 #[.val (.ref t), .val (.int (Int32.ofNat i))] [] from by first | rfl | (simp [entryFrame, mkF, argsToLocals, Value.category]; done))) (fun w Y C => ?_)
  refine g_iloadN C d20_0 (pc' := 1) rfl rfl ?_
  refine g_aloadN C d20_1 (pc' := 2) rfl rfl rfl ?_
  refine g_static (rm := R_s_uci) C (y := (⟨"java/lang/StringUTF16", "checkIndex", "(I[B)V"⟩ : MethodName)) (hw _ (List.mem_of_getElem? (i := 97) rfl)) (hw _ (List.mem_of_getElem? (i := 98) rfl)) (hw _ (List.mem_of_getElem? (i := 51) rfl)) (hw _ (List.mem_of_getElem? (i := 99) rfl)) (by decide) d20_2 (pc' := 5) rfl (argsL := [(.int (Int32.ofNat i)), (.ref t)]) (rest := []) (lenOf pd_13 rfl) rfl (W := 0) (Nat.le_of_eq rfl) rfl (fun hn => Met.back (rm := R_s_uci) (s_uci hw t n i cf G3 A hi h6 O4 rG3 X) hn C.hZ (hw _ (List.mem_of_getElem? (i := 99) rfl)) (hw _ (List.mem_of_getElem? (i := 51) rfl)) (by decide) (by decide)) (k' := 0) (n' := 0) rfl rfl (by decide) (by decide) ?_
  rintro _ _ ⟨rfl, rfl⟩
  show Go w l _ n0 _ h0 0 0 5 #[.val (.ref t), .val (.int (Int32.ofNat i))] []
  refine g_aloadN C d20_5 (pc' := 6) rfl rfl rfl ?_
  refine g_iloadN C d20_6 (pc' := 7) rfl rfl ?_
  refine g_static (rm := R_s_getc) C (y := (⟨"java/lang/StringUTF16", "getChar", "([BI)C"⟩ : MethodName)) (hw _ (List.mem_of_getElem? (i := 75) rfl)) (hw _ (List.mem_of_getElem? (i := 76) rfl)) (hw _ (List.mem_of_getElem? (i := 51) rfl)) (hw _ (List.mem_of_getElem? (i := 77) rfl)) (by decide) d20_7 (pc' := 10) rfl (argsL := [(.ref t), (.int (Int32.ofNat i))]) (rest := []) (lenOf pd_5 rfl) rfl (W := 0) (Nat.le_of_eq rfl) rfl (fun hn => Met.back (rm := R_s_getc) (s_getc hw t n i cf A hi h6 hc OA OH OL X) hn C.hZ (hw _ (List.mem_of_getElem? (i := 77) rfl)) (hw _ (List.mem_of_getElem? (i := 51) rfl)) (by decide) (by decide)) (k' := 0) (n' := 0) rfl rfl (by decide) (by decide) ?_
  rintro _ _ ⟨rfl, rfl⟩
  show Go w l _ n0 _ h0 0 0 10 #[.val (.ref t), .val (.int (Int32.ofNat i))] [(.int (cf i))]
  exact g_retN C (t := .char) rfl (by simp) d20_10 ⟨by rw [own_nc (hc i hi)], rfl⟩ (by decide) (by decide)
def R_s_lch : Room := ({ frames := 2, cells := 0, slots := 0, locals := 27 } : Room)
set_option maxRecDepth 65536 in
set_option maxHeartbeats 40000000 in
theorem s_lch {l : Launch} {Z : State} {a0 : Array Value} (hw : ∀ d ∈ tables_1, d.before a0 Z = true) {h0 : Heap} {n0 : Nat} (t : Addr) (n i : Nat) (cf : Nat → Int32) (G3 : Value) (A : Arw Z h0 t .byte (Int32.ofNat n) (own_lat cf)) (hi : i < n) (h6 : n ≤ 6) (hc : ∀ j, j < n → 0 ≤ (cf j).toInt ∧ (cf j).toInt < 65536) (hL : ∀ j, j < n → ¬ 255 < (cf j).toInt) (O4 : Sta Z Z.heap "jdk/internal/util/Preconditions" "SIOOBE_FORMATTER" "Ljava/util/function/BiFunction;" G3) (rG3 : G3.isRef = true) (X : Old Z n0 h0) :
    Met l Z (⟨"java/lang/StringLatin1", "charAt", "([BI)C"⟩ : MethodName) jdk_43_method_2_code 2 (some .char) R_s_lch n0 h0 #[(.ref t), (.int (Int32.ofNat i))] (fun r h => r = some (.int (cf i)) ∧ h0 = h) := by
  refine Met.intro (plainFor_of_name (by first | (simp [plainName, overriddenIn, x]; done) | decide +kernel)) (fun m => (show entryFrame m #[(.ref t), (.int (Int32.ofNat i))] 2 = mkF m 0 #[.val (.ref t), .val (.int (Int32.ofNat i))] [] from by first | rfl | (simp [entryFrame, mkF, argsToLocals, Value.category]; done))) (fun w Y C => ?_)
  refine g_iloadN C d25_0 (pc' := 1) rfl rfl ?_
  refine g_aloadN C d25_1 (pc' := 2) rfl rfl rfl ?_
  refine g_lenW C A d25_2 (pc' := 3) rfl ?_
  refine g_static (rm := R_s_sci) C (y := (⟨"java/lang/String", "checkIndex", "(II)V"⟩ : MethodName)) (hw _ (List.mem_of_getElem? (i := 115) rfl)) (hw _ (List.mem_of_getElem? (i := 104) rfl)) (hw _ (List.mem_of_getElem? (i := 10) rfl)) (hw _ (List.mem_of_getElem? (i := 105) rfl)) (by decide) d25_3 (pc' := 6) rfl (argsL := [(.int (Int32.ofNat i)), (.int (Int32.ofNat n))]) (rest := []) (lenOf pd_12 rfl) rfl (W := 0) (Nat.le_of_eq rfl) rfl (fun hn => Met.back (rm := R_s_sci) (s_sci hw n i G3 hi h6 O4 rG3 X) hn C.hZ (hw _ (List.mem_of_getElem? (i := 105) rfl)) (hw _ (List.mem_of_getElem? (i := 10) rfl)) (by decide) (by decide)) (k' := 0) (n' := 0) rfl rfl (by decide) (by decide) ?_
  rintro _ _ ⟨rfl, rfl⟩
  show Go w l _ n0 _ h0 0 0 6 #[.val (.ref t), .val (.int (Int32.ofNat i))] []
  refine g_aloadN C d25_6 (pc' := 7) rfl rfl rfl ?_
  refine g_iloadN C d25_7 (pc' := 8) rfl rfl ?_
  refine g_baloadW C (v := (.int (own_lo (cf i)))) A (n32_nn (by omega)) (n32_lt (by omega) (by omega)) (by show Value.int (own_lo (cf _)) = _; rw [n32_nat (by omega)]) d25_8 (pc' := 9) rfl ?_
  refine g_sipush C (z := (255 : Int32)) d25_9 (pc' := 12) rfl rfl ?_
  refine g_iand C d25_12 (pc' := 13) rfl ?_
  refine g_i2c C d25_13 (pc' := 14) rfl ?_
  exact g_retN C (t := .char) rfl (by simp) d25_14 ⟨by rw [own_rtL (hc i hi).1 (hL i hi)], rfl⟩ (by decide) (by decide)
def R_s_chrL : Room := ({ frames := 3, cells := 0, slots := 0, locals := 40 } : Room)
set_option maxRecDepth 65536 in
set_option maxHeartbeats 40000000 in
theorem s_chrL {l : Launch} {Z : State} {a0 : Array Value} (hw : ∀ d ∈ tables_1, d.before a0 Z = true) {h0 : Heap} {n0 : Nat} (a t : Addr) (n : Nat) (cf : Nat → Int32) (G1 : Int32) (G3 : Value) (i : Nat) (E : Exa Z h0 a "java/lang/String") (Fc : Fld Z h0 a "java/lang/String" "coder" "B" (.int 0)) (Fv : Fld Z h0 a "java/lang/String" "value" "[B" (.ref t)) (A : Arw Z h0 t .byte (Int32.ofNat n) (own_lat cf)) (h6 : n ≤ 6) (hc : ∀ j, j < n → 0 ≤ (cf j).toInt ∧ (cf j).toInt < 65536) (O2 : Sta Z Z.heap "java/lang/String" "COMPACT_STRINGS" "Z" (.int G1)) (P5 : ¬ G1 = 0) (OA : Sta Z Z.heap "java/lang/StringUTF16" "$assertionsDisabled" "Z" (.int 1)) (OH : Sta Z Z.heap "java/lang/StringUTF16" "HI_BYTE_SHIFT" "I" (.int 0)) (OL : Sta Z Z.heap "java/lang/StringUTF16" "LO_BYTE_SHIFT" "I" (.int 8)) (X : Old Z n0 h0) (O4 : Sta Z Z.heap "jdk/internal/util/Preconditions" "SIOOBE_FORMATTER" "Ljava/util/function/BiFunction;" G3) (rG3 : G3.isRef = true) (hL : ∀ j, j < n → ¬ 255 < (cf j).toInt) (hi : i < n) :
    Met l Z (⟨"java/lang/String", "charAt", "(I)C"⟩ : MethodName) jdk_42_method_56_code 2 (some .char) R_s_chrL n0 h0 #[(.ref a), (.int (Int32.ofNat i))] (fun r h => r = some (.int (cf i)) ∧ h0 = h) := by
  refine Met.intro (plainFor_of_name (by first | (simp [plainName, overriddenIn, x]; done) | decide +kernel)) (fun m => (show entryFrame m #[(.ref a), (.int (Int32.ofNat i))] 2 = mkF m 0 #[.val (.ref a), .val (.int (Int32.ofNat i))] [] from by first | rfl | (simp [entryFrame, mkF, argsToLocals, Value.category]; done))) (fun w Y C => ?_)
  refine g_aloadN C d18_0 (pc' := 1) rfl rfl rfl ?_
  refine g_virtual (rm := R_s_latL) (a := a) C (y := (⟨"java/lang/String", "isLatin1", "()Z"⟩ : MethodName)) (y' := (⟨"java/lang/String", "isLatin1", "()Z"⟩ : MethodName)) (hw _ (List.mem_of_getElem? (i := 89) rfl)) (hw _ (List.mem_of_getElem? (i := 90) rfl)) (g_nf C (hw _ (List.mem_of_getElem? (i := 92) rfl))) (hw _ (List.mem_of_getElem? (i := 92) rfl)) (hw _ (List.mem_of_getElem? (i := 91) rfl)) (by decide) E d18_1 (pc' := 4) rfl (argsL := []) (rest := []) (lenOf pd_14 rfl) rfl (W := 0) (Nat.le_of_eq rfl) rfl (fun hn => Met.back (rm := R_s_latL) (s_latL hw a t n cf G1 G3 E Fc Fv A h6 hc O2 P5 OA OH OL X O4 rG3 hL) hn C.hZ (hw _ (List.mem_of_getElem? (i := 93) rfl)) (hw _ (List.mem_of_getElem? (i := 10) rfl)) (by decide) (by decide)) (k' := 0) (n' := 0) rfl rfl (by decide) (by decide) ?_
  rintro _ _ ⟨rfl, rfl⟩
  show Go w l _ n0 _ h0 0 0 4 #[.val (.ref a), .val (.int (Int32.ofNat i))] [(.int (1 : Int32))]
  refine g_if_eq C d18_4 (by decide) (pc' := 16) (by decide) (pcN := 7) rfl (fun q => absurd q (by decide)) (fun _ => ?_)
  refine g_aloadN C d18_7 (pc' := 8) rfl rfl rfl ?_
  refine g_getF (host := "") C (Or.inl (hw _ (List.mem_of_getElem? (i := 28) rfl))) Via.refl Fv d18_8 (pc' := 11) rfl ?_
  refine g_iloadN C d18_11 (pc' := 12) rfl rfl ?_
  refine g_static (rm := R_s_lch) C (y := (⟨"java/lang/StringLatin1", "charAt", "([BI)C"⟩ : MethodName)) (hw _ (List.mem_of_getElem? (i := 111) rfl)) (hw _ (List.mem_of_getElem? (i := 112) rfl)) (hw _ (List.mem_of_getElem? (i := 113) rfl)) (hw _ (List.mem_of_getElem? (i := 114) rfl)) (by decide) d18_12 (pc' := 15) rfl (argsL := [(.ref t), (.int (Int32.ofNat i))]) (rest := []) (lenOf pd_5 rfl) rfl (W := 0) (Nat.le_of_eq rfl) rfl (fun hn => Met.back (rm := R_s_lch) (s_lch hw t n i cf G3 A hi h6 hc hL O4 rG3 X) hn C.hZ (hw _ (List.mem_of_getElem? (i := 114) rfl)) (hw _ (List.mem_of_getElem? (i := 113) rfl)) (by decide) (by decide)) (k' := 0) (n' := 0) rfl rfl (by decide) (by decide) ?_
  rintro _ _ ⟨rfl, rfl⟩
  show Go w l _ n0 _ h0 0 0 15 #[.val (.ref a), .val (.int (Int32.ofNat i))] [(.int (cf i))]
  exact g_retN C (t := .char) rfl (by simp) d18_15 ⟨by rw [own_nc (hc i hi)], rfl⟩ (by decide) (by decide)
def R_s_typeL : Room := ({ frames := 4, cells := 0, slots := 0, locals := 53 } : Room)
set_option maxRecDepth 65536 in
set_option maxHeartbeats 40000000 in
theorem s_typeL {l : Launch} {Z : State} {a0 : Array Value} (hw : ∀ d ∈ tables_1, d.before a0 Z = true) {h0 : Heap} {n0 : Nat} (a t : Addr) (n : Nat) (cf : Nat → Int32) (G1 : Int32) (G3 : Value) (E : Exa Z h0 a "java/lang/String") (Fc : Fld Z h0 a "java/lang/String" "coder" "B" (.int 0)) (Fv : Fld Z h0 a "java/lang/String" "value" "[B" (.ref t)) (A : Arw Z h0 t .byte (Int32.ofNat n) (own_lat cf)) (h6 : n ≤ 6) (hc : ∀ j, j < n → 0 ≤ (cf j).toInt ∧ (cf j).toInt < 65536) (O2 : Sta Z Z.heap "java/lang/String" "COMPACT_STRINGS" "Z" (.int G1)) (P5 : ¬ G1 = 0) (OA : Sta Z Z.heap "java/lang/StringUTF16" "$assertionsDisabled" "Z" (.int 1)) (OH : Sta Z Z.heap "java/lang/StringUTF16" "HI_BYTE_SHIFT" "I" (.int 0)) (OL : Sta Z Z.heap "java/lang/StringUTF16" "LO_BYTE_SHIFT" "I" (.int 8)) (X : Old Z n0 h0) (O4 : Sta Z Z.heap "jdk/internal/util/Preconditions" "SIOOBE_FORMATTER" "Ljava/util/function/BiFunction;" G3) (rG3 : G3.isRef = true) (hL : ∀ j, j < n → ¬ 255 < (cf j).toInt) :
    Met l Z (⟨"com/example/longhaul/longhaul/IsoMessage", "isType", "(Ljava/lang/CharSequence;)Z"⟩ : MethodName) prog_16_method_11_code 3 (some .boolean) R_s_typeL n0 h0 #[(.ref a)] (fun r h => ∃ i : Int32, r = some (.int i) ∧ (i = 1 ∧ (n = 4 ∧ own_dig (cf 0) ∧ own_dig (cf 1) ∧ own_dig (cf 2) ∧ own_dig (cf 3)) ∨ i = 0 ∧ ¬ (n = 4 ∧ own_dig (cf 0) ∧ own_dig (cf 1) ∧ own_dig (cf 2) ∧ own_dig (cf 3)))) := by
  refine Met.intro (plainFor_of_name (by first | (simp [plainName, overriddenIn, x]; done) | decide +kernel)) (fun m => (show entryFrame m #[(.ref a)] 3 = mkF m 0 #[.val (.ref a), .unset, .unset] [] from by first | rfl | (simp [entryFrame, mkF, argsToLocals, Value.category]; done))) (fun w Y C => ?_)
  refine g_aloadN C d6_0 (pc' := 1) rfl rfl rfl ?_
  refine g_iface (rm := R_s_lenL) (a := a) C (y := (⟨"java/lang/CharSequence", "length", "()I"⟩ : MethodName)) (y' := (⟨"java/lang/String", "length", "()I"⟩ : MethodName)) (hw _ (List.mem_of_getElem? (i := 34) rfl)) (hw _ (List.mem_of_getElem? (i := 35) rfl)) (hw _ (List.mem_of_getElem? (i := 36) rfl)) rfl (hw _ (List.mem_of_getElem? (i := 37) rfl)) (hw _ (List.mem_of_getElem? (i := 38) rfl)) (hw _ (List.mem_of_getElem? (i := 39) rfl)) (hw _ (List.mem_of_getElem? (i := 40) rfl)) (hw _ (List.mem_of_getElem? (i := 41) rfl)) (by decide) E d6_1 (pc' := 6) rfl (argsL := []) (rest := []) (lenOf pd_15 rfl) rfl (W := 0) (Nat.le_of_eq rfl) rfl (fun hn => Met.back (rm := R_s_lenL) (s_lenL hw a t n cf G1 G3 E Fc Fv A h6 hc O2 P5 OA OH OL X O4 rG3 hL) hn C.hZ (hw _ (List.mem_of_getElem? (i := 42) rfl)) (hw _ (List.mem_of_getElem? (i := 10) rfl)) (by decide) (by decide)) (k' := 0) (n' := 0) rfl rfl (by decide) (by decide) ?_
  rintro _ _ ⟨rfl, rfl⟩
  show Go w l _ n0 _ h0 0 0 6 #[.val (.ref a), .unset, .unset] [(.int (Int32.ofNat n))]
  refine g_iconst C (z := (4 : Int32)) d6_6 (pc' := 7) rfl rfl ?_
  refine g_icmp_eq C d6_7 (by decide) (pc' := 12) (by decide) (pcN := 10) rfl (fun q7 => ?_) (fun q7 => ?_)
  · have en : n = 4 := own_inj4 h6 q7
    refine g_iconst C (z := (0 : Int32)) d6_12 (pc' := 13) rfl rfl ?_
    refine g_istoreN C d6_13 (pc' := 14) rfl (Ls' := #[.val (.ref a), .val (.int (0 : Int32)), .unset]) rfl ?_
    refine g_iloadN C d6_14 (pc' := 15) rfl rfl ?_
    refine g_iconst C (z := (4 : Int32)) d6_15 (pc' := 16) rfl rfl ?_
    refine g_icmp_ge C d6_16 (by decide) (pc' := 47) (by decide) (pcN := 19) rfl (fun q => absurd q (by decide)) (fun _ => ?_)
    refine g_aloadN C d6_19 (pc' := 20) rfl rfl rfl ?_
    refine g_iloadN C d6_20 (pc' := 21) rfl rfl ?_
    refine g_iface (rm := R_s_chrL) (a := a) C (y := (⟨"java/lang/CharSequence", "charAt", "(I)C"⟩ : MethodName)) (y' := (⟨"java/lang/String", "charAt", "(I)C"⟩ : MethodName)) (hw _ (List.mem_of_getElem? (i := 81) rfl)) (hw _ (List.mem_of_getElem? (i := 82) rfl)) (hw _ (List.mem_of_getElem? (i := 83) rfl)) rfl (hw _ (List.mem_of_getElem? (i := 84) rfl)) (hw _ (List.mem_of_getElem? (i := 85) rfl)) (hw _ (List.mem_of_getElem? (i := 86) rfl)) (hw _ (List.mem_of_getElem? (i := 87) rfl)) (hw _ (List.mem_of_getElem? (i := 41) rfl)) (by decide) E d6_21 (pc' := 26) rfl (argsL := [(.int (0 : Int32))]) (rest := []) (lenOf pd_16 rfl) rfl (W := 0) (Nat.le_of_eq rfl) rfl (fun hn => Met.back (rm := R_s_chrL) (s_chrL hw a t n cf G1 G3 0 E Fc Fv A h6 hc O2 P5 OA OH OL X O4 rG3 hL (by omega)) hn C.hZ (hw _ (List.mem_of_getElem? (i := 88) rfl)) (hw _ (List.mem_of_getElem? (i := 10) rfl)) (by decide) (by decide)) (k' := 0) (n' := 0) rfl rfl (by decide) (by decide) ?_
    rintro _ _ ⟨rfl, rfl⟩
    show Go w l _ n0 _ h0 0 0 26 #[.val (.ref a), .val (.int (0 : Int32)), .unset] [(.int (cf 0))]
    refine g_istoreN C d6_26 (pc' := 27) rfl (Ls' := #[.val (.ref a), .val (.int (0 : Int32)), .val (.int (cf 0))]) rfl ?_
    refine g_iloadN C d6_27 (pc' := 28) rfl rfl ?_
    refine g_bipush C (z := (48 : Int32)) d6_28 (pc' := 30) rfl rfl ?_
    refine g_icmp_lt C d6_30 (by decide) (pc' := 39) (by decide) (pcN := 33) rfl (fun q30_0 => ?_) (fun q30_0 => ?_)
    · have z30_0 : (cf 0).toInt < 48 := Int32.lt_iff_toInt_lt.mp q30_0
      refine g_iconst C (z := (0 : Int32)) d6_39 (pc' := 40) rfl rfl ?_
      exact g_retN C (t := .boolean) rfl (by simp) d6_40 ⟨0, rfl, Or.inr ⟨rfl, by unfold own_dig; omega⟩⟩ (by decide) (by decide)
    · have z30_0 : ¬ (cf 0).toInt < 48 := fun a => q30_0 (Int32.lt_iff_toInt_lt.mpr a)
      refine g_iloadN C d6_33 (pc' := 34) rfl rfl ?_
      refine g_bipush C (z := (57 : Int32)) d6_34 (pc' := 36) rfl rfl ?_
      refine g_icmp_le C d6_36 (by decide) (pc' := 41) (by decide) (pcN := 39) rfl (fun q36_0 => ?_) (fun q36_0 => ?_)
      · have z36_0 : ¬ 57 < (cf 0).toInt := fun a => q36_0 (Int32.lt_iff_toInt_lt.mpr a)
        refine g_iinc C d6_41 (pc' := 44) rfl rfl (z := (1 : Int32)) rfl (Ls' := #[.val (.ref a), .val (.int (1 : Int32)), .val (.int (cf 0))]) rfl ?_
        refine g_goto C d6_44 (by decide) (pc' := 14) (by decide) ?_
        refine g_iloadN C d6_14 (pc' := 15) rfl rfl ?_
        refine g_iconst C (z := (4 : Int32)) d6_15 (pc' := 16) rfl rfl ?_
        refine g_icmp_ge C d6_16 (by decide) (pc' := 47) (by decide) (pcN := 19) rfl (fun q => absurd q (by decide)) (fun _ => ?_)
        refine g_aloadN C d6_19 (pc' := 20) rfl rfl rfl ?_
        refine g_iloadN C d6_20 (pc' := 21) rfl rfl ?_
        refine g_iface (rm := R_s_chrL) (a := a) C (y := (⟨"java/lang/CharSequence", "charAt", "(I)C"⟩ : MethodName)) (y' := (⟨"java/lang/String", "charAt", "(I)C"⟩ : MethodName)) (hw _ (List.mem_of_getElem? (i := 81) rfl)) (hw _ (List.mem_of_getElem? (i := 82) rfl)) (hw _ (List.mem_of_getElem? (i := 83) rfl)) rfl (hw _ (List.mem_of_getElem? (i := 84) rfl)) (hw _ (List.mem_of_getElem? (i := 85) rfl)) (hw _ (List.mem_of_getElem? (i := 86) rfl)) (hw _ (List.mem_of_getElem? (i := 87) rfl)) (hw _ (List.mem_of_getElem? (i := 41) rfl)) (by decide) E d6_21 (pc' := 26) rfl (argsL := [(.int (1 : Int32))]) (rest := []) (lenOf pd_16 rfl) rfl (W := 0) (Nat.le_of_eq rfl) rfl (fun hn => Met.back (rm := R_s_chrL) (s_chrL hw a t n cf G1 G3 1 E Fc Fv A h6 hc O2 P5 OA OH OL X O4 rG3 hL (by omega)) hn C.hZ (hw _ (List.mem_of_getElem? (i := 88) rfl)) (hw _ (List.mem_of_getElem? (i := 10) rfl)) (by decide) (by decide)) (k' := 0) (n' := 0) rfl rfl (by decide) (by decide) ?_
        rintro _ _ ⟨rfl, rfl⟩
        show Go w l _ n0 _ h0 0 0 26 #[.val (.ref a), .val (.int (1 : Int32)), .val (.int (cf 0))] [(.int (cf 1))]
        refine g_istoreN C d6_26 (pc' := 27) rfl (Ls' := #[.val (.ref a), .val (.int (1 : Int32)), .val (.int (cf 1))]) rfl ?_
        refine g_iloadN C d6_27 (pc' := 28) rfl rfl ?_
        refine g_bipush C (z := (48 : Int32)) d6_28 (pc' := 30) rfl rfl ?_
        refine g_icmp_lt C d6_30 (by decide) (pc' := 39) (by decide) (pcN := 33) rfl (fun q30_1 => ?_) (fun q30_1 => ?_)
        · have z30_1 : (cf 1).toInt < 48 := Int32.lt_iff_toInt_lt.mp q30_1
          refine g_iconst C (z := (0 : Int32)) d6_39 (pc' := 40) rfl rfl ?_
          exact g_retN C (t := .boolean) rfl (by simp) d6_40 ⟨0, rfl, Or.inr ⟨rfl, by unfold own_dig; omega⟩⟩ (by decide) (by decide)
        · have z30_1 : ¬ (cf 1).toInt < 48 := fun a => q30_1 (Int32.lt_iff_toInt_lt.mpr a)
          refine g_iloadN C d6_33 (pc' := 34) rfl rfl ?_
          refine g_bipush C (z := (57 : Int32)) d6_34 (pc' := 36) rfl rfl ?_
          refine g_icmp_le C d6_36 (by decide) (pc' := 41) (by decide) (pcN := 39) rfl (fun q36_1 => ?_) (fun q36_1 => ?_)
          · have z36_1 : ¬ 57 < (cf 1).toInt := fun a => q36_1 (Int32.lt_iff_toInt_lt.mpr a)
            refine g_iinc C d6_41 (pc' := 44) rfl rfl (z := (2 : Int32)) rfl (Ls' := #[.val (.ref a), .val (.int (2 : Int32)), .val (.int (cf 1))]) rfl ?_
            refine g_goto C d6_44 (by decide) (pc' := 14) (by decide) ?_
            refine g_iloadN C d6_14 (pc' := 15) rfl rfl ?_
            refine g_iconst C (z := (4 : Int32)) d6_15 (pc' := 16) rfl rfl ?_
            refine g_icmp_ge C d6_16 (by decide) (pc' := 47) (by decide) (pcN := 19) rfl (fun q => absurd q (by decide)) (fun _ => ?_)
            refine g_aloadN C d6_19 (pc' := 20) rfl rfl rfl ?_
            refine g_iloadN C d6_20 (pc' := 21) rfl rfl ?_
            refine g_iface (rm := R_s_chrL) (a := a) C (y := (⟨"java/lang/CharSequence", "charAt", "(I)C"⟩ : MethodName)) (y' := (⟨"java/lang/String", "charAt", "(I)C"⟩ : MethodName)) (hw _ (List.mem_of_getElem? (i := 81) rfl)) (hw _ (List.mem_of_getElem? (i := 82) rfl)) (hw _ (List.mem_of_getElem? (i := 83) rfl)) rfl (hw _ (List.mem_of_getElem? (i := 84) rfl)) (hw _ (List.mem_of_getElem? (i := 85) rfl)) (hw _ (List.mem_of_getElem? (i := 86) rfl)) (hw _ (List.mem_of_getElem? (i := 87) rfl)) (hw _ (List.mem_of_getElem? (i := 41) rfl)) (by decide) E d6_21 (pc' := 26) rfl (argsL := [(.int (2 : Int32))]) (rest := []) (lenOf pd_16 rfl) rfl (W := 0) (Nat.le_of_eq rfl) rfl (fun hn => Met.back (rm := R_s_chrL) (s_chrL hw a t n cf G1 G3 2 E Fc Fv A h6 hc O2 P5 OA OH OL X O4 rG3 hL (by omega)) hn C.hZ (hw _ (List.mem_of_getElem? (i := 88) rfl)) (hw _ (List.mem_of_getElem? (i := 10) rfl)) (by decide) (by decide)) (k' := 0) (n' := 0) rfl rfl (by decide) (by decide) ?_
            rintro _ _ ⟨rfl, rfl⟩
            show Go w l _ n0 _ h0 0 0 26 #[.val (.ref a), .val (.int (2 : Int32)), .val (.int (cf 1))] [(.int (cf 2))]
            refine g_istoreN C d6_26 (pc' := 27) rfl (Ls' := #[.val (.ref a), .val (.int (2 : Int32)), .val (.int (cf 2))]) rfl ?_
            refine g_iloadN C d6_27 (pc' := 28) rfl rfl ?_
            refine g_bipush C (z := (48 : Int32)) d6_28 (pc' := 30) rfl rfl ?_
            refine g_icmp_lt C d6_30 (by decide) (pc' := 39) (by decide) (pcN := 33) rfl (fun q30_2 => ?_) (fun q30_2 => ?_)
            · have z30_2 : (cf 2).toInt < 48 := Int32.lt_iff_toInt_lt.mp q30_2
              refine g_iconst C (z := (0 : Int32)) d6_39 (pc' := 40) rfl rfl ?_
              exact g_retN C (t := .boolean) rfl (by simp) d6_40 ⟨0, rfl, Or.inr ⟨rfl, by unfold own_dig; omega⟩⟩ (by decide) (by decide)
            · have z30_2 : ¬ (cf 2).toInt < 48 := fun a => q30_2 (Int32.lt_iff_toInt_lt.mpr a)
              refine g_iloadN C d6_33 (pc' := 34) rfl rfl ?_
              refine g_bipush C (z := (57 : Int32)) d6_34 (pc' := 36) rfl rfl ?_
              refine g_icmp_le C d6_36 (by decide) (pc' := 41) (by decide) (pcN := 39) rfl (fun q36_2 => ?_) (fun q36_2 => ?_)
              · have z36_2 : ¬ 57 < (cf 2).toInt := fun a => q36_2 (Int32.lt_iff_toInt_lt.mpr a)
                refine g_iinc C d6_41 (pc' := 44) rfl rfl (z := (3 : Int32)) rfl (Ls' := #[.val (.ref a), .val (.int (3 : Int32)), .val (.int (cf 2))]) rfl ?_
                refine g_goto C d6_44 (by decide) (pc' := 14) (by decide) ?_
                refine g_iloadN C d6_14 (pc' := 15) rfl rfl ?_
                refine g_iconst C (z := (4 : Int32)) d6_15 (pc' := 16) rfl rfl ?_
                refine g_icmp_ge C d6_16 (by decide) (pc' := 47) (by decide) (pcN := 19) rfl (fun q => absurd q (by decide)) (fun _ => ?_)
                refine g_aloadN C d6_19 (pc' := 20) rfl rfl rfl ?_
                refine g_iloadN C d6_20 (pc' := 21) rfl rfl ?_
                refine g_iface (rm := R_s_chrL) (a := a) C (y := (⟨"java/lang/CharSequence", "charAt", "(I)C"⟩ : MethodName)) (y' := (⟨"java/lang/String", "charAt", "(I)C"⟩ : MethodName)) (hw _ (List.mem_of_getElem? (i := 81) rfl)) (hw _ (List.mem_of_getElem? (i := 82) rfl)) (hw _ (List.mem_of_getElem? (i := 83) rfl)) rfl (hw _ (List.mem_of_getElem? (i := 84) rfl)) (hw _ (List.mem_of_getElem? (i := 85) rfl)) (hw _ (List.mem_of_getElem? (i := 86) rfl)) (hw _ (List.mem_of_getElem? (i := 87) rfl)) (hw _ (List.mem_of_getElem? (i := 41) rfl)) (by decide) E d6_21 (pc' := 26) rfl (argsL := [(.int (3 : Int32))]) (rest := []) (lenOf pd_16 rfl) rfl (W := 0) (Nat.le_of_eq rfl) rfl (fun hn => Met.back (rm := R_s_chrL) (s_chrL hw a t n cf G1 G3 3 E Fc Fv A h6 hc O2 P5 OA OH OL X O4 rG3 hL (by omega)) hn C.hZ (hw _ (List.mem_of_getElem? (i := 88) rfl)) (hw _ (List.mem_of_getElem? (i := 10) rfl)) (by decide) (by decide)) (k' := 0) (n' := 0) rfl rfl (by decide) (by decide) ?_
                rintro _ _ ⟨rfl, rfl⟩
                show Go w l _ n0 _ h0 0 0 26 #[.val (.ref a), .val (.int (3 : Int32)), .val (.int (cf 2))] [(.int (cf 3))]
                refine g_istoreN C d6_26 (pc' := 27) rfl (Ls' := #[.val (.ref a), .val (.int (3 : Int32)), .val (.int (cf 3))]) rfl ?_
                refine g_iloadN C d6_27 (pc' := 28) rfl rfl ?_
                refine g_bipush C (z := (48 : Int32)) d6_28 (pc' := 30) rfl rfl ?_
                refine g_icmp_lt C d6_30 (by decide) (pc' := 39) (by decide) (pcN := 33) rfl (fun q30_3 => ?_) (fun q30_3 => ?_)
                · have z30_3 : (cf 3).toInt < 48 := Int32.lt_iff_toInt_lt.mp q30_3
                  refine g_iconst C (z := (0 : Int32)) d6_39 (pc' := 40) rfl rfl ?_
                  exact g_retN C (t := .boolean) rfl (by simp) d6_40 ⟨0, rfl, Or.inr ⟨rfl, by unfold own_dig; omega⟩⟩ (by decide) (by decide)
                · have z30_3 : ¬ (cf 3).toInt < 48 := fun a => q30_3 (Int32.lt_iff_toInt_lt.mpr a)
                  refine g_iloadN C d6_33 (pc' := 34) rfl rfl ?_
                  refine g_bipush C (z := (57 : Int32)) d6_34 (pc' := 36) rfl rfl ?_
                  refine g_icmp_le C d6_36 (by decide) (pc' := 41) (by decide) (pcN := 39) rfl (fun q36_3 => ?_) (fun q36_3 => ?_)
                  · have z36_3 : ¬ 57 < (cf 3).toInt := fun a => q36_3 (Int32.lt_iff_toInt_lt.mpr a)
                    refine g_iinc C d6_41 (pc' := 44) rfl rfl (z := (4 : Int32)) rfl (Ls' := #[.val (.ref a), .val (.int (4 : Int32)), .val (.int (cf 3))]) rfl ?_
                    refine g_goto C d6_44 (by decide) (pc' := 14) (by decide) ?_
                    refine g_iloadN C d6_14 (pc' := 15) rfl rfl ?_
                    refine g_iconst C (z := (4 : Int32)) d6_15 (pc' := 16) rfl rfl ?_
                    refine g_icmp_ge C d6_16 (by decide) (pc' := 47) (by decide) (pcN := 19) rfl (fun _ => ?_) (fun q => absurd q (by decide))
                    refine g_iconst C (z := (1 : Int32)) d6_47 (pc' := 48) rfl rfl ?_
                    exact g_retN C (t := .boolean) rfl (by simp) d6_48 ⟨1, rfl, Or.inl ⟨rfl, by unfold own_dig; omega⟩⟩ (by decide) (by decide)
                  · have z36_3 : 57 < (cf 3).toInt := Int32.lt_iff_toInt_lt.mp q36_3
                    refine g_iconst C (z := (0 : Int32)) d6_39 (pc' := 40) rfl rfl ?_
                    exact g_retN C (t := .boolean) rfl (by simp) d6_40 ⟨0, rfl, Or.inr ⟨rfl, by unfold own_dig; omega⟩⟩ (by decide) (by decide)
              · have z36_2 : 57 < (cf 2).toInt := Int32.lt_iff_toInt_lt.mp q36_2
                refine g_iconst C (z := (0 : Int32)) d6_39 (pc' := 40) rfl rfl ?_
                exact g_retN C (t := .boolean) rfl (by simp) d6_40 ⟨0, rfl, Or.inr ⟨rfl, by unfold own_dig; omega⟩⟩ (by decide) (by decide)
          · have z36_1 : 57 < (cf 1).toInt := Int32.lt_iff_toInt_lt.mp q36_1
            refine g_iconst C (z := (0 : Int32)) d6_39 (pc' := 40) rfl rfl ?_
            exact g_retN C (t := .boolean) rfl (by simp) d6_40 ⟨0, rfl, Or.inr ⟨rfl, by unfold own_dig; omega⟩⟩ (by decide) (by decide)
      · have z36_0 : 57 < (cf 0).toInt := Int32.lt_iff_toInt_lt.mp q36_0
        refine g_iconst C (z := (0 : Int32)) d6_39 (pc' := 40) rfl rfl ?_
        exact g_retN C (t := .boolean) rfl (by simp) d6_40 ⟨0, rfl, Or.inr ⟨rfl, by unfold own_dig; omega⟩⟩ (by decide) (by decide)
  · have en : ¬ n = 4 := fun e => q7 (by rw [e]; rfl)
    refine g_iconst C (z := (0 : Int32)) d6_10 (pc' := 11) rfl rfl ?_
    exact g_retN C (t := .boolean) rfl (by simp) d6_11 ⟨0, rfl, Or.inr ⟨rfl, by unfold own_dig; omega⟩⟩ (by decide) (by decide)
def R_s_latU : Room := ({ frames := 0, cells := 0, slots := 0, locals := 0 } : Room)
set_option maxRecDepth 65536 in
set_option maxHeartbeats 40000000 in
theorem s_latU {l : Launch} {Z : State} {a0 : Array Value} (hw : ∀ d ∈ tables_1, d.before a0 Z = true) {h0 : Heap} {n0 : Nat} (a t : Addr) (n : Nat) (cf : Nat → Int32) (G1 : Int32) (G3 : Value) (E : Exa Z h0 a "java/lang/String") (Fc : Fld Z h0 a "java/lang/String" "coder" "B" (.int 1)) (Fv : Fld Z h0 a "java/lang/String" "value" "[B" (.ref t)) (A : Arw Z h0 t .byte (Int32.ofNat (2 * n)) (own_utf cf)) (h6 : n ≤ 6) (hc : ∀ j, j < n → 0 ≤ (cf j).toInt ∧ (cf j).toInt < 65536) (O2 : Sta Z Z.heap "java/lang/String" "COMPACT_STRINGS" "Z" (.int G1)) (P5 : ¬ G1 = 0) (OA : Sta Z Z.heap "java/lang/StringUTF16" "$assertionsDisabled" "Z" (.int 1)) (OH : Sta Z Z.heap "java/lang/StringUTF16" "HI_BYTE_SHIFT" "I" (.int 0)) (OL : Sta Z Z.heap "java/lang/StringUTF16" "LO_BYTE_SHIFT" "I" (.int 8)) (X : Old Z n0 h0) (O4 : Sta Z Z.heap "jdk/internal/util/Preconditions" "SIOOBE_FORMATTER" "Ljava/util/function/BiFunction;" G3) (rG3 : G3.isRef = true) :
    Met l Z (⟨"java/lang/String", "isLatin1", "()Z"⟩ : MethodName) jdk_42_method_154_code 1 (some .boolean) R_s_latU n0 h0 #[(.ref a)] (fun r h => r = some (.int 0) ∧ h0 = h) := by
  refine Met.intro (plainFor_of_name (by first | (simp [plainName, overriddenIn, x]; done) | decide +kernel)) (fun m => (show entryFrame m #[(.ref a)] 1 = mkF m 0 #[.val (.ref a)] [] from by first | rfl | (simp [entryFrame, mkF, argsToLocals, Value.category]; done))) (fun w Y C => ?_)
  refine g_getS (host := "") C (Or.inl (hw _ (List.mem_of_getElem? (i := 48) rfl))) Via.refl (O2.ext X.2) d19_0 (pc' := 3) rfl ?_
  refine g_if_eq C d19_3 (by decide) (pc' := 17) (by decide) (pcN := 6) rfl (fun q => absurd q P5) (fun _ => ?_)
  refine g_aloadN C d19_6 (pc' := 7) rfl rfl rfl ?_
  refine g_getF (host := "") C (Or.inl (hw _ (List.mem_of_getElem? (i := 29) rfl))) Via.refl Fc d19_7 (pc' := 10) rfl ?_
  refine g_if_ne C d19_10 (by decide) (pc' := 17) (by decide) (pcN := 13) rfl (fun _ => ?_) (fun q => absurd q (by decide))
  refine g_iconst C (z := (0 : Int32)) d19_17 (pc' := 18) rfl rfl ?_
  exact g_retN C (t := .boolean) rfl (by simp) d19_18 ⟨rfl, rfl⟩ (by decide) (by decide)
def R_s_codU : Room := ({ frames := 0, cells := 0, slots := 0, locals := 0 } : Room)
set_option maxRecDepth 65536 in
set_option maxHeartbeats 40000000 in
theorem s_codU {l : Launch} {Z : State} {a0 : Array Value} (hw : ∀ d ∈ tables_1, d.before a0 Z = true) {h0 : Heap} {n0 : Nat} (a t : Addr) (n : Nat) (cf : Nat → Int32) (G1 : Int32) (G3 : Value) (E : Exa Z h0 a "java/lang/String") (Fc : Fld Z h0 a "java/lang/String" "coder" "B" (.int 1)) (Fv : Fld Z h0 a "java/lang/String" "value" "[B" (.ref t)) (A : Arw Z h0 t .byte (Int32.ofNat (2 * n)) (own_utf cf)) (h6 : n ≤ 6) (hc : ∀ j, j < n → 0 ≤ (cf j).toInt ∧ (cf j).toInt < 65536) (O2 : Sta Z Z.heap "java/lang/String" "COMPACT_STRINGS" "Z" (.int G1)) (P5 : ¬ G1 = 0) (OA : Sta Z Z.heap "java/lang/StringUTF16" "$assertionsDisabled" "Z" (.int 1)) (OH : Sta Z Z.heap "java/lang/StringUTF16" "HI_BYTE_SHIFT" "I" (.int 0)) (OL : Sta Z Z.heap "java/lang/StringUTF16" "LO_BYTE_SHIFT" "I" (.int 8)) (X : Old Z n0 h0) (O4 : Sta Z Z.heap "jdk/internal/util/Preconditions" "SIOOBE_FORMATTER" "Ljava/util/function/BiFunction;" G3) (rG3 : G3.isRef = true) :
    Met l Z (⟨"java/lang/String", "coder", "()B"⟩ : MethodName) jdk_42_method_152_code 1 (some .byte) R_s_codU n0 h0 #[(.ref a)] (fun r h => r = some (.int 1) ∧ h0 = h) := by
  refine Met.intro (plainFor_of_name (by first | (simp [plainName, overriddenIn, x]; done) | decide +kernel)) (fun m => (show entryFrame m #[(.ref a)] 1 = mkF m 0 #[.val (.ref a)] [] from by first | rfl | (simp [entryFrame, mkF, argsToLocals, Value.category]; done))) (fun w Y C => ?_)
  refine g_getS (host := "") C (Or.inl (hw _ (List.mem_of_getElem? (i := 48) rfl))) Via.refl (O2.ext X.2) d8_0 (pc' := 3) rfl ?_
  refine g_if_eq C d8_3 (by decide) (pc' := 13) (by decide) (pcN := 6) rfl (fun q => absurd q P5) (fun _ => ?_)
  refine g_aloadN C d8_6 (pc' := 7) rfl rfl rfl ?_
  refine g_getF (host := "") C (Or.inl (hw _ (List.mem_of_getElem? (i := 29) rfl))) Via.refl Fc d8_7 (pc' := 10) rfl ?_
  refine g_goto C d8_10 (by decide) (pc' := 14) (by decide) ?_
  exact g_retN C (t := .byte) rfl (by simp) d8_14 ⟨rfl, rfl⟩ (by decide) (by decide)
def R_s_lenU : Room := ({ frames := 1, cells := 0, slots := 0, locals := 13 } : Room)
set_option maxRecDepth 65536 in
set_option maxHeartbeats 40000000 in
theorem s_lenU {l : Launch} {Z : State} {a0 : Array Value} (hw : ∀ d ∈ tables_1, d.before a0 Z = true) {h0 : Heap} {n0 : Nat} (a t : Addr) (n : Nat) (cf : Nat → Int32) (G1 : Int32) (G3 : Value) (E : Exa Z h0 a "java/lang/String") (Fc : Fld Z h0 a "java/lang/String" "coder" "B" (.int 1)) (Fv : Fld Z h0 a "java/lang/String" "value" "[B" (.ref t)) (A : Arw Z h0 t .byte (Int32.ofNat (2 * n)) (own_utf cf)) (h6 : n ≤ 6) (hc : ∀ j, j < n → 0 ≤ (cf j).toInt ∧ (cf j).toInt < 65536) (O2 : Sta Z Z.heap "java/lang/String" "COMPACT_STRINGS" "Z" (.int G1)) (P5 : ¬ G1 = 0) (OA : Sta Z Z.heap "java/lang/StringUTF16" "$assertionsDisabled" "Z" (.int 1)) (OH : Sta Z Z.heap "java/lang/StringUTF16" "HI_BYTE_SHIFT" "I" (.int 0)) (OL : Sta Z Z.heap "java/lang/StringUTF16" "LO_BYTE_SHIFT" "I" (.int 8)) (X : Old Z n0 h0) (O4 : Sta Z Z.heap "jdk/internal/util/Preconditions" "SIOOBE_FORMATTER" "Ljava/util/function/BiFunction;" G3) (rG3 : G3.isRef = true) :
    Met l Z (⟨"java/lang/String", "length", "()I"⟩ : MethodName) jdk_42_method_54_code 1 (some .int) R_s_lenU n0 h0 #[(.ref a)] (fun r h => r = some (.int (Int32.ofNat n)) ∧ h0 = h) := by
  refine Met.intro (plainFor_of_name (by first | (simp [plainName, overriddenIn, x]; done) | decide +kernel)) (fun m => (show entryFrame m #[(.ref a)] 1 = mkF m 0 #[.val (.ref a)] [] from by first | rfl | (simp [entryFrame, mkF, argsToLocals, Value.category]; done))) (fun w Y C => ?_)
  refine g_aloadN C d7_0 (pc' := 1) rfl rfl rfl ?_
  refine g_getF (host := "") C (Or.inl (hw _ (List.mem_of_getElem? (i := 28) rfl))) Via.refl Fv d7_1 (pc' := 4) rfl ?_
  refine g_lenW C A d7_4 (pc' := 5) rfl ?_
  refine g_aloadN C d7_5 (pc' := 6) rfl rfl rfl ?_
  refine g_virtual (rm := R_s_codU) (a := a) C (y := (⟨"java/lang/String", "coder", "()B"⟩ : MethodName)) (y' := (⟨"java/lang/String", "coder", "()B"⟩ : MethodName)) (hw _ (List.mem_of_getElem? (i := 43) rfl)) (hw _ (List.mem_of_getElem? (i := 44) rfl)) (g_nf C (hw _ (List.mem_of_getElem? (i := 46) rfl))) (hw _ (List.mem_of_getElem? (i := 46) rfl)) (hw _ (List.mem_of_getElem? (i := 45) rfl)) (by decide) E d7_6 (pc' := 9) rfl (argsL := []) (rest := [(.int (Int32.ofNat (2 * n)))]) (lenOf pd_9 rfl) rfl (W := 1) (Nat.le_of_eq rfl) rfl (fun hn => Met.back (rm := R_s_codU) (s_codU hw a t n cf G1 G3 E Fc Fv A h6 hc O2 P5 OA OH OL X O4 rG3) hn C.hZ (hw _ (List.mem_of_getElem? (i := 47) rfl)) (hw _ (List.mem_of_getElem? (i := 10) rfl)) (by decide) (by decide)) (k' := 0) (n' := 0) rfl rfl (by decide) (by decide) ?_
  rintro _ _ ⟨rfl, rfl⟩
  show Go w l _ n0 _ h0 0 0 9 #[.val (.ref a)] [(.int (1 : Int32)), (.int (Int32.ofNat (2 * n)))]
  refine g_ishr C d7_9 (pc' := 10) rfl ?_
  exact g_retI C rfl d7_10 ⟨by rw [own_shr (by omega)], rfl⟩ (by decide) (by decide)
def R_s_chrU : Room := ({ frames := 4, cells := 0, slots := 0, locals := 53 } : Room)
set_option maxRecDepth 65536 in
set_option maxHeartbeats 40000000 in
theorem s_chrU {l : Launch} {Z : State} {a0 : Array Value} (hw : ∀ d ∈ tables_1, d.before a0 Z = true) {h0 : Heap} {n0 : Nat} (a t : Addr) (n : Nat) (cf : Nat → Int32) (G1 : Int32) (G3 : Value) (i : Nat) (E : Exa Z h0 a "java/lang/String") (Fc : Fld Z h0 a "java/lang/String" "coder" "B" (.int 1)) (Fv : Fld Z h0 a "java/lang/String" "value" "[B" (.ref t)) (A : Arw Z h0 t .byte (Int32.ofNat (2 * n)) (own_utf cf)) (h6 : n ≤ 6) (hc : ∀ j, j < n → 0 ≤ (cf j).toInt ∧ (cf j).toInt < 65536) (O2 : Sta Z Z.heap "java/lang/String" "COMPACT_STRINGS" "Z" (.int G1)) (P5 : ¬ G1 = 0) (OA : Sta Z Z.heap "java/lang/StringUTF16" "$assertionsDisabled" "Z" (.int 1)) (OH : Sta Z Z.heap "java/lang/StringUTF16" "HI_BYTE_SHIFT" "I" (.int 0)) (OL : Sta Z Z.heap "java/lang/StringUTF16" "LO_BYTE_SHIFT" "I" (.int 8)) (X : Old Z n0 h0) (O4 : Sta Z Z.heap "jdk/internal/util/Preconditions" "SIOOBE_FORMATTER" "Ljava/util/function/BiFunction;" G3) (rG3 : G3.isRef = true) (hi : i < n) :
    Met l Z (⟨"java/lang/String", "charAt", "(I)C"⟩ : MethodName) jdk_42_method_56_code 2 (some .char) R_s_chrU n0 h0 #[(.ref a), (.int (Int32.ofNat i))] (fun r h => r = some (.int (cf i)) ∧ h0 = h) := by
  refine Met.intro (plainFor_of_name (by first | (simp [plainName, overriddenIn, x]; done) | decide +kernel)) (fun m => (show entryFrame m #[(.ref a), (.int (Int32.ofNat i))] 2 = mkF m 0 #[.val (.ref a), .val (.int (Int32.ofNat i))] [] from by first | rfl | (simp [entryFrame, mkF, argsToLocals, Value.category]; done))) (fun w Y C => ?_)
  refine g_aloadN C d18_0 (pc' := 1) rfl rfl rfl ?_
  refine g_virtual (rm := R_s_latU) (a := a) C (y := (⟨"java/lang/String", "isLatin1", "()Z"⟩ : MethodName)) (y' := (⟨"java/lang/String", "isLatin1", "()Z"⟩ : MethodName)) (hw _ (List.mem_of_getElem? (i := 89) rfl)) (hw _ (List.mem_of_getElem? (i := 90) rfl)) (g_nf C (hw _ (List.mem_of_getElem? (i := 92) rfl))) (hw _ (List.mem_of_getElem? (i := 92) rfl)) (hw _ (List.mem_of_getElem? (i := 91) rfl)) (by decide) E d18_1 (pc' := 4) rfl (argsL := []) (rest := []) (lenOf pd_14 rfl) rfl (W := 0) (Nat.le_of_eq rfl) rfl (fun hn => Met.back (rm := R_s_latU) (s_latU hw a t n cf G1 G3 E Fc Fv A h6 hc O2 P5 OA OH OL X O4 rG3) hn C.hZ (hw _ (List.mem_of_getElem? (i := 93) rfl)) (hw _ (List.mem_of_getElem? (i := 10) rfl)) (by decide) (by decide)) (k' := 0) (n' := 0) rfl rfl (by decide) (by decide) ?_
  rintro _ _ ⟨rfl, rfl⟩
  show Go w l _ n0 _ h0 0 0 4 #[.val (.ref a), .val (.int (Int32.ofNat i))] [(.int (0 : Int32))]
  refine g_if_eq C d18_4 (by decide) (pc' := 16) (by decide) (pcN := 7) rfl (fun _ => ?_) (fun q => absurd rfl q)
  refine g_aloadN C d18_16 (pc' := 17) rfl rfl rfl ?_
  refine g_getF (host := "") C (Or.inl (hw _ (List.mem_of_getElem? (i := 28) rfl))) Via.refl Fv d18_17 (pc' := 20) rfl ?_
  refine g_iloadN C d18_20 (pc' := 21) rfl rfl ?_
  refine g_static (rm := R_s_uch) C (y := (⟨"java/lang/StringUTF16", "charAt", "([BI)C"⟩ : MethodName)) (hw _ (List.mem_of_getElem? (i := 94) rfl)) (hw _ (List.mem_of_getElem? (i := 95) rfl)) (hw _ (List.mem_of_getElem? (i := 51) rfl)) (hw _ (List.mem_of_getElem? (i := 96) rfl)) (by decide) d18_21 (pc' := 24) rfl (argsL := [(.ref t), (.int (Int32.ofNat i))]) (rest := []) (lenOf pd_5 rfl) rfl (W := 0) (Nat.le_of_eq rfl) rfl (fun hn => Met.back (rm := R_s_uch) (s_uch hw t n i cf G3 A hi h6 hc OA OH OL X O4 rG3) hn C.hZ (hw _ (List.mem_of_getElem? (i := 96) rfl)) (hw _ (List.mem_of_getElem? (i := 51) rfl)) (by decide) (by decide)) (k' := 0) (n' := 0) rfl rfl (by decide) (by decide) ?_
  rintro _ _ ⟨rfl, rfl⟩
  show Go w l _ n0 _ h0 0 0 24 #[.val (.ref a), .val (.int (Int32.ofNat i))] [(.int (cf i))]
  exact g_retN C (t := .char) rfl (by simp) d18_24 ⟨by rw [own_nc (hc i hi)], rfl⟩ (by decide) (by decide)
def R_s_typeU : Room := ({ frames := 5, cells := 0, slots := 0, locals := 66 } : Room)
set_option maxRecDepth 65536 in
set_option maxHeartbeats 40000000 in
theorem s_typeU {l : Launch} {Z : State} {a0 : Array Value} (hw : ∀ d ∈ tables_1, d.before a0 Z = true) {h0 : Heap} {n0 : Nat} (a t : Addr) (n : Nat) (cf : Nat → Int32) (G1 : Int32) (G3 : Value) (E : Exa Z h0 a "java/lang/String") (Fc : Fld Z h0 a "java/lang/String" "coder" "B" (.int 1)) (Fv : Fld Z h0 a "java/lang/String" "value" "[B" (.ref t)) (A : Arw Z h0 t .byte (Int32.ofNat (2 * n)) (own_utf cf)) (h6 : n ≤ 6) (hc : ∀ j, j < n → 0 ≤ (cf j).toInt ∧ (cf j).toInt < 65536) (O2 : Sta Z Z.heap "java/lang/String" "COMPACT_STRINGS" "Z" (.int G1)) (P5 : ¬ G1 = 0) (OA : Sta Z Z.heap "java/lang/StringUTF16" "$assertionsDisabled" "Z" (.int 1)) (OH : Sta Z Z.heap "java/lang/StringUTF16" "HI_BYTE_SHIFT" "I" (.int 0)) (OL : Sta Z Z.heap "java/lang/StringUTF16" "LO_BYTE_SHIFT" "I" (.int 8)) (X : Old Z n0 h0) (O4 : Sta Z Z.heap "jdk/internal/util/Preconditions" "SIOOBE_FORMATTER" "Ljava/util/function/BiFunction;" G3) (rG3 : G3.isRef = true) :
    Met l Z (⟨"com/example/longhaul/longhaul/IsoMessage", "isType", "(Ljava/lang/CharSequence;)Z"⟩ : MethodName) prog_16_method_11_code 3 (some .boolean) R_s_typeU n0 h0 #[(.ref a)] (fun r h => ∃ i : Int32, r = some (.int i) ∧ (i = 1 ∧ (n = 4 ∧ own_dig (cf 0) ∧ own_dig (cf 1) ∧ own_dig (cf 2) ∧ own_dig (cf 3)) ∨ i = 0 ∧ ¬ (n = 4 ∧ own_dig (cf 0) ∧ own_dig (cf 1) ∧ own_dig (cf 2) ∧ own_dig (cf 3)))) := by
  refine Met.intro (plainFor_of_name (by first | (simp [plainName, overriddenIn, x]; done) | decide +kernel)) (fun m => (show entryFrame m #[(.ref a)] 3 = mkF m 0 #[.val (.ref a), .unset, .unset] [] from by first | rfl | (simp [entryFrame, mkF, argsToLocals, Value.category]; done))) (fun w Y C => ?_)
  refine g_aloadN C d6_0 (pc' := 1) rfl rfl rfl ?_
  refine g_iface (rm := R_s_lenU) (a := a) C (y := (⟨"java/lang/CharSequence", "length", "()I"⟩ : MethodName)) (y' := (⟨"java/lang/String", "length", "()I"⟩ : MethodName)) (hw _ (List.mem_of_getElem? (i := 34) rfl)) (hw _ (List.mem_of_getElem? (i := 35) rfl)) (hw _ (List.mem_of_getElem? (i := 36) rfl)) rfl (hw _ (List.mem_of_getElem? (i := 37) rfl)) (hw _ (List.mem_of_getElem? (i := 38) rfl)) (hw _ (List.mem_of_getElem? (i := 39) rfl)) (hw _ (List.mem_of_getElem? (i := 40) rfl)) (hw _ (List.mem_of_getElem? (i := 41) rfl)) (by decide) E d6_1 (pc' := 6) rfl (argsL := []) (rest := []) (lenOf pd_15 rfl) rfl (W := 0) (Nat.le_of_eq rfl) rfl (fun hn => Met.back (rm := R_s_lenU) (s_lenU hw a t n cf G1 G3 E Fc Fv A h6 hc O2 P5 OA OH OL X O4 rG3) hn C.hZ (hw _ (List.mem_of_getElem? (i := 42) rfl)) (hw _ (List.mem_of_getElem? (i := 10) rfl)) (by decide) (by decide)) (k' := 0) (n' := 0) rfl rfl (by decide) (by decide) ?_
  rintro _ _ ⟨rfl, rfl⟩
  show Go w l _ n0 _ h0 0 0 6 #[.val (.ref a), .unset, .unset] [(.int (Int32.ofNat n))]
  refine g_iconst C (z := (4 : Int32)) d6_6 (pc' := 7) rfl rfl ?_
  refine g_icmp_eq C d6_7 (by decide) (pc' := 12) (by decide) (pcN := 10) rfl (fun q7 => ?_) (fun q7 => ?_)
  · have en : n = 4 := own_inj4 h6 q7
    refine g_iconst C (z := (0 : Int32)) d6_12 (pc' := 13) rfl rfl ?_
    refine g_istoreN C d6_13 (pc' := 14) rfl (Ls' := #[.val (.ref a), .val (.int (0 : Int32)), .unset]) rfl ?_
    refine g_iloadN C d6_14 (pc' := 15) rfl rfl ?_
    refine g_iconst C (z := (4 : Int32)) d6_15 (pc' := 16) rfl rfl ?_
    refine g_icmp_ge C d6_16 (by decide) (pc' := 47) (by decide) (pcN := 19) rfl (fun q => absurd q (by decide)) (fun _ => ?_)
    refine g_aloadN C d6_19 (pc' := 20) rfl rfl rfl ?_
    refine g_iloadN C d6_20 (pc' := 21) rfl rfl ?_
    refine g_iface (rm := R_s_chrU) (a := a) C (y := (⟨"java/lang/CharSequence", "charAt", "(I)C"⟩ : MethodName)) (y' := (⟨"java/lang/String", "charAt", "(I)C"⟩ : MethodName)) (hw _ (List.mem_of_getElem? (i := 81) rfl)) (hw _ (List.mem_of_getElem? (i := 82) rfl)) (hw _ (List.mem_of_getElem? (i := 83) rfl)) rfl (hw _ (List.mem_of_getElem? (i := 84) rfl)) (hw _ (List.mem_of_getElem? (i := 85) rfl)) (hw _ (List.mem_of_getElem? (i := 86) rfl)) (hw _ (List.mem_of_getElem? (i := 87) rfl)) (hw _ (List.mem_of_getElem? (i := 41) rfl)) (by decide) E d6_21 (pc' := 26) rfl (argsL := [(.int (0 : Int32))]) (rest := []) (lenOf pd_16 rfl) rfl (W := 0) (Nat.le_of_eq rfl) rfl (fun hn => Met.back (rm := R_s_chrU) (s_chrU hw a t n cf G1 G3 0 E Fc Fv A h6 hc O2 P5 OA OH OL X O4 rG3 (by omega)) hn C.hZ (hw _ (List.mem_of_getElem? (i := 88) rfl)) (hw _ (List.mem_of_getElem? (i := 10) rfl)) (by decide) (by decide)) (k' := 0) (n' := 0) rfl rfl (by decide) (by decide) ?_
    rintro _ _ ⟨rfl, rfl⟩
    show Go w l _ n0 _ h0 0 0 26 #[.val (.ref a), .val (.int (0 : Int32)), .unset] [(.int (cf 0))]
    refine g_istoreN C d6_26 (pc' := 27) rfl (Ls' := #[.val (.ref a), .val (.int (0 : Int32)), .val (.int (cf 0))]) rfl ?_
    refine g_iloadN C d6_27 (pc' := 28) rfl rfl ?_
    refine g_bipush C (z := (48 : Int32)) d6_28 (pc' := 30) rfl rfl ?_
    refine g_icmp_lt C d6_30 (by decide) (pc' := 39) (by decide) (pcN := 33) rfl (fun q30_0 => ?_) (fun q30_0 => ?_)
    · have z30_0 : (cf 0).toInt < 48 := Int32.lt_iff_toInt_lt.mp q30_0
      refine g_iconst C (z := (0 : Int32)) d6_39 (pc' := 40) rfl rfl ?_
      exact g_retN C (t := .boolean) rfl (by simp) d6_40 ⟨0, rfl, Or.inr ⟨rfl, by unfold own_dig; omega⟩⟩ (by decide) (by decide)
    · have z30_0 : ¬ (cf 0).toInt < 48 := fun a => q30_0 (Int32.lt_iff_toInt_lt.mpr a)
      refine g_iloadN C d6_33 (pc' := 34) rfl rfl ?_
      refine g_bipush C (z := (57 : Int32)) d6_34 (pc' := 36) rfl rfl ?_
      refine g_icmp_le C d6_36 (by decide) (pc' := 41) (by decide) (pcN := 39) rfl (fun q36_0 => ?_) (fun q36_0 => ?_)
      · have z36_0 : ¬ 57 < (cf 0).toInt := fun a => q36_0 (Int32.lt_iff_toInt_lt.mpr a)
        refine g_iinc C d6_41 (pc' := 44) rfl rfl (z := (1 : Int32)) rfl (Ls' := #[.val (.ref a), .val (.int (1 : Int32)), .val (.int (cf 0))]) rfl ?_
        refine g_goto C d6_44 (by decide) (pc' := 14) (by decide) ?_
        refine g_iloadN C d6_14 (pc' := 15) rfl rfl ?_
        refine g_iconst C (z := (4 : Int32)) d6_15 (pc' := 16) rfl rfl ?_
        refine g_icmp_ge C d6_16 (by decide) (pc' := 47) (by decide) (pcN := 19) rfl (fun q => absurd q (by decide)) (fun _ => ?_)
        refine g_aloadN C d6_19 (pc' := 20) rfl rfl rfl ?_
        refine g_iloadN C d6_20 (pc' := 21) rfl rfl ?_
        refine g_iface (rm := R_s_chrU) (a := a) C (y := (⟨"java/lang/CharSequence", "charAt", "(I)C"⟩ : MethodName)) (y' := (⟨"java/lang/String", "charAt", "(I)C"⟩ : MethodName)) (hw _ (List.mem_of_getElem? (i := 81) rfl)) (hw _ (List.mem_of_getElem? (i := 82) rfl)) (hw _ (List.mem_of_getElem? (i := 83) rfl)) rfl (hw _ (List.mem_of_getElem? (i := 84) rfl)) (hw _ (List.mem_of_getElem? (i := 85) rfl)) (hw _ (List.mem_of_getElem? (i := 86) rfl)) (hw _ (List.mem_of_getElem? (i := 87) rfl)) (hw _ (List.mem_of_getElem? (i := 41) rfl)) (by decide) E d6_21 (pc' := 26) rfl (argsL := [(.int (1 : Int32))]) (rest := []) (lenOf pd_16 rfl) rfl (W := 0) (Nat.le_of_eq rfl) rfl (fun hn => Met.back (rm := R_s_chrU) (s_chrU hw a t n cf G1 G3 1 E Fc Fv A h6 hc O2 P5 OA OH OL X O4 rG3 (by omega)) hn C.hZ (hw _ (List.mem_of_getElem? (i := 88) rfl)) (hw _ (List.mem_of_getElem? (i := 10) rfl)) (by decide) (by decide)) (k' := 0) (n' := 0) rfl rfl (by decide) (by decide) ?_
        rintro _ _ ⟨rfl, rfl⟩
        show Go w l _ n0 _ h0 0 0 26 #[.val (.ref a), .val (.int (1 : Int32)), .val (.int (cf 0))] [(.int (cf 1))]
        refine g_istoreN C d6_26 (pc' := 27) rfl (Ls' := #[.val (.ref a), .val (.int (1 : Int32)), .val (.int (cf 1))]) rfl ?_
        refine g_iloadN C d6_27 (pc' := 28) rfl rfl ?_
        refine g_bipush C (z := (48 : Int32)) d6_28 (pc' := 30) rfl rfl ?_
        refine g_icmp_lt C d6_30 (by decide) (pc' := 39) (by decide) (pcN := 33) rfl (fun q30_1 => ?_) (fun q30_1 => ?_)
        · have z30_1 : (cf 1).toInt < 48 := Int32.lt_iff_toInt_lt.mp q30_1
          refine g_iconst C (z := (0 : Int32)) d6_39 (pc' := 40) rfl rfl ?_
          exact g_retN C (t := .boolean) rfl (by simp) d6_40 ⟨0, rfl, Or.inr ⟨rfl, by unfold own_dig; omega⟩⟩ (by decide) (by decide)
        · have z30_1 : ¬ (cf 1).toInt < 48 := fun a => q30_1 (Int32.lt_iff_toInt_lt.mpr a)
          refine g_iloadN C d6_33 (pc' := 34) rfl rfl ?_
          refine g_bipush C (z := (57 : Int32)) d6_34 (pc' := 36) rfl rfl ?_
          refine g_icmp_le C d6_36 (by decide) (pc' := 41) (by decide) (pcN := 39) rfl (fun q36_1 => ?_) (fun q36_1 => ?_)
          · have z36_1 : ¬ 57 < (cf 1).toInt := fun a => q36_1 (Int32.lt_iff_toInt_lt.mpr a)
            refine g_iinc C d6_41 (pc' := 44) rfl rfl (z := (2 : Int32)) rfl (Ls' := #[.val (.ref a), .val (.int (2 : Int32)), .val (.int (cf 1))]) rfl ?_
            refine g_goto C d6_44 (by decide) (pc' := 14) (by decide) ?_
            refine g_iloadN C d6_14 (pc' := 15) rfl rfl ?_
            refine g_iconst C (z := (4 : Int32)) d6_15 (pc' := 16) rfl rfl ?_
            refine g_icmp_ge C d6_16 (by decide) (pc' := 47) (by decide) (pcN := 19) rfl (fun q => absurd q (by decide)) (fun _ => ?_)
            refine g_aloadN C d6_19 (pc' := 20) rfl rfl rfl ?_
            refine g_iloadN C d6_20 (pc' := 21) rfl rfl ?_
            refine g_iface (rm := R_s_chrU) (a := a) C (y := (⟨"java/lang/CharSequence", "charAt", "(I)C"⟩ : MethodName)) (y' := (⟨"java/lang/String", "charAt", "(I)C"⟩ : MethodName)) (hw _ (List.mem_of_getElem? (i := 81) rfl)) (hw _ (List.mem_of_getElem? (i := 82) rfl)) (hw _ (List.mem_of_getElem? (i := 83) rfl)) rfl (hw _ (List.mem_of_getElem? (i := 84) rfl)) (hw _ (List.mem_of_getElem? (i := 85) rfl)) (hw _ (List.mem_of_getElem? (i := 86) rfl)) (hw _ (List.mem_of_getElem? (i := 87) rfl)) (hw _ (List.mem_of_getElem? (i := 41) rfl)) (by decide) E d6_21 (pc' := 26) rfl (argsL := [(.int (2 : Int32))]) (rest := []) (lenOf pd_16 rfl) rfl (W := 0) (Nat.le_of_eq rfl) rfl (fun hn => Met.back (rm := R_s_chrU) (s_chrU hw a t n cf G1 G3 2 E Fc Fv A h6 hc O2 P5 OA OH OL X O4 rG3 (by omega)) hn C.hZ (hw _ (List.mem_of_getElem? (i := 88) rfl)) (hw _ (List.mem_of_getElem? (i := 10) rfl)) (by decide) (by decide)) (k' := 0) (n' := 0) rfl rfl (by decide) (by decide) ?_
            rintro _ _ ⟨rfl, rfl⟩
            show Go w l _ n0 _ h0 0 0 26 #[.val (.ref a), .val (.int (2 : Int32)), .val (.int (cf 1))] [(.int (cf 2))]
            refine g_istoreN C d6_26 (pc' := 27) rfl (Ls' := #[.val (.ref a), .val (.int (2 : Int32)), .val (.int (cf 2))]) rfl ?_
            refine g_iloadN C d6_27 (pc' := 28) rfl rfl ?_
            refine g_bipush C (z := (48 : Int32)) d6_28 (pc' := 30) rfl rfl ?_
            refine g_icmp_lt C d6_30 (by decide) (pc' := 39) (by decide) (pcN := 33) rfl (fun q30_2 => ?_) (fun q30_2 => ?_)
            · have z30_2 : (cf 2).toInt < 48 := Int32.lt_iff_toInt_lt.mp q30_2
              refine g_iconst C (z := (0 : Int32)) d6_39 (pc' := 40) rfl rfl ?_
              exact g_retN C (t := .boolean) rfl (by simp) d6_40 ⟨0, rfl, Or.inr ⟨rfl, by unfold own_dig; omega⟩⟩ (by decide) (by decide)
            · have z30_2 : ¬ (cf 2).toInt < 48 := fun a => q30_2 (Int32.lt_iff_toInt_lt.mpr a)
              refine g_iloadN C d6_33 (pc' := 34) rfl rfl ?_
              refine g_bipush C (z := (57 : Int32)) d6_34 (pc' := 36) rfl rfl ?_
              refine g_icmp_le C d6_36 (by decide) (pc' := 41) (by decide) (pcN := 39) rfl (fun q36_2 => ?_) (fun q36_2 => ?_)
              · have z36_2 : ¬ 57 < (cf 2).toInt := fun a => q36_2 (Int32.lt_iff_toInt_lt.mpr a)
                refine g_iinc C d6_41 (pc' := 44) rfl rfl (z := (3 : Int32)) rfl (Ls' := #[.val (.ref a), .val (.int (3 : Int32)), .val (.int (cf 2))]) rfl ?_
                refine g_goto C d6_44 (by decide) (pc' := 14) (by decide) ?_
                refine g_iloadN C d6_14 (pc' := 15) rfl rfl ?_
                refine g_iconst C (z := (4 : Int32)) d6_15 (pc' := 16) rfl rfl ?_
                refine g_icmp_ge C d6_16 (by decide) (pc' := 47) (by decide) (pcN := 19) rfl (fun q => absurd q (by decide)) (fun _ => ?_)
                refine g_aloadN C d6_19 (pc' := 20) rfl rfl rfl ?_
                refine g_iloadN C d6_20 (pc' := 21) rfl rfl ?_
                refine g_iface (rm := R_s_chrU) (a := a) C (y := (⟨"java/lang/CharSequence", "charAt", "(I)C"⟩ : MethodName)) (y' := (⟨"java/lang/String", "charAt", "(I)C"⟩ : MethodName)) (hw _ (List.mem_of_getElem? (i := 81) rfl)) (hw _ (List.mem_of_getElem? (i := 82) rfl)) (hw _ (List.mem_of_getElem? (i := 83) rfl)) rfl (hw _ (List.mem_of_getElem? (i := 84) rfl)) (hw _ (List.mem_of_getElem? (i := 85) rfl)) (hw _ (List.mem_of_getElem? (i := 86) rfl)) (hw _ (List.mem_of_getElem? (i := 87) rfl)) (hw _ (List.mem_of_getElem? (i := 41) rfl)) (by decide) E d6_21 (pc' := 26) rfl (argsL := [(.int (3 : Int32))]) (rest := []) (lenOf pd_16 rfl) rfl (W := 0) (Nat.le_of_eq rfl) rfl (fun hn => Met.back (rm := R_s_chrU) (s_chrU hw a t n cf G1 G3 3 E Fc Fv A h6 hc O2 P5 OA OH OL X O4 rG3 (by omega)) hn C.hZ (hw _ (List.mem_of_getElem? (i := 88) rfl)) (hw _ (List.mem_of_getElem? (i := 10) rfl)) (by decide) (by decide)) (k' := 0) (n' := 0) rfl rfl (by decide) (by decide) ?_
                rintro _ _ ⟨rfl, rfl⟩
                show Go w l _ n0 _ h0 0 0 26 #[.val (.ref a), .val (.int (3 : Int32)), .val (.int (cf 2))] [(.int (cf 3))]
                refine g_istoreN C d6_26 (pc' := 27) rfl (Ls' := #[.val (.ref a), .val (.int (3 : Int32)), .val (.int (cf 3))]) rfl ?_
                refine g_iloadN C d6_27 (pc' := 28) rfl rfl ?_
                refine g_bipush C (z := (48 : Int32)) d6_28 (pc' := 30) rfl rfl ?_
                refine g_icmp_lt C d6_30 (by decide) (pc' := 39) (by decide) (pcN := 33) rfl (fun q30_3 => ?_) (fun q30_3 => ?_)
                · have z30_3 : (cf 3).toInt < 48 := Int32.lt_iff_toInt_lt.mp q30_3
                  refine g_iconst C (z := (0 : Int32)) d6_39 (pc' := 40) rfl rfl ?_
                  exact g_retN C (t := .boolean) rfl (by simp) d6_40 ⟨0, rfl, Or.inr ⟨rfl, by unfold own_dig; omega⟩⟩ (by decide) (by decide)
                · have z30_3 : ¬ (cf 3).toInt < 48 := fun a => q30_3 (Int32.lt_iff_toInt_lt.mpr a)
                  refine g_iloadN C d6_33 (pc' := 34) rfl rfl ?_
                  refine g_bipush C (z := (57 : Int32)) d6_34 (pc' := 36) rfl rfl ?_
                  refine g_icmp_le C d6_36 (by decide) (pc' := 41) (by decide) (pcN := 39) rfl (fun q36_3 => ?_) (fun q36_3 => ?_)
                  · have z36_3 : ¬ 57 < (cf 3).toInt := fun a => q36_3 (Int32.lt_iff_toInt_lt.mpr a)
                    refine g_iinc C d6_41 (pc' := 44) rfl rfl (z := (4 : Int32)) rfl (Ls' := #[.val (.ref a), .val (.int (4 : Int32)), .val (.int (cf 3))]) rfl ?_
                    refine g_goto C d6_44 (by decide) (pc' := 14) (by decide) ?_
                    refine g_iloadN C d6_14 (pc' := 15) rfl rfl ?_
                    refine g_iconst C (z := (4 : Int32)) d6_15 (pc' := 16) rfl rfl ?_
                    refine g_icmp_ge C d6_16 (by decide) (pc' := 47) (by decide) (pcN := 19) rfl (fun _ => ?_) (fun q => absurd q (by decide))
                    refine g_iconst C (z := (1 : Int32)) d6_47 (pc' := 48) rfl rfl ?_
                    exact g_retN C (t := .boolean) rfl (by simp) d6_48 ⟨1, rfl, Or.inl ⟨rfl, by unfold own_dig; omega⟩⟩ (by decide) (by decide)
                  · have z36_3 : 57 < (cf 3).toInt := Int32.lt_iff_toInt_lt.mp q36_3
                    refine g_iconst C (z := (0 : Int32)) d6_39 (pc' := 40) rfl rfl ?_
                    exact g_retN C (t := .boolean) rfl (by simp) d6_40 ⟨0, rfl, Or.inr ⟨rfl, by unfold own_dig; omega⟩⟩ (by decide) (by decide)
              · have z36_2 : 57 < (cf 2).toInt := Int32.lt_iff_toInt_lt.mp q36_2
                refine g_iconst C (z := (0 : Int32)) d6_39 (pc' := 40) rfl rfl ?_
                exact g_retN C (t := .boolean) rfl (by simp) d6_40 ⟨0, rfl, Or.inr ⟨rfl, by unfold own_dig; omega⟩⟩ (by decide) (by decide)
          · have z36_1 : 57 < (cf 1).toInt := Int32.lt_iff_toInt_lt.mp q36_1
            refine g_iconst C (z := (0 : Int32)) d6_39 (pc' := 40) rfl rfl ?_
            exact g_retN C (t := .boolean) rfl (by simp) d6_40 ⟨0, rfl, Or.inr ⟨rfl, by unfold own_dig; omega⟩⟩ (by decide) (by decide)
      · have z36_0 : 57 < (cf 0).toInt := Int32.lt_iff_toInt_lt.mp q36_0
        refine g_iconst C (z := (0 : Int32)) d6_39 (pc' := 40) rfl rfl ?_
        exact g_retN C (t := .boolean) rfl (by simp) d6_40 ⟨0, rfl, Or.inr ⟨rfl, by unfold own_dig; omega⟩⟩ (by decide) (by decide)
  · have en : ¬ n = 4 := fun e => q7 (by rw [e]; rfl)
    refine g_iconst C (z := (0 : Int32)) d6_10 (pc' := 11) rfl rfl ?_
    exact g_retN C (t := .boolean) rfl (by simp) d6_11 ⟨0, rfl, Or.inr ⟨rfl, by unfold own_dig; omega⟩⟩ (by decide) (by decide)
set_option maxRecDepth 65536 in
set_option maxHeartbeats 40000000 in
theorem a137L {l : Launch} {Z : State} {a0 : Array Value} (hw : ∀ d ∈ tables_1, d.before a0 Z = true) {w : Wk} {n0 : Nat} {h0 : Heap} {Y : State → Outcome → Prop} (p0 p1 p2 p3 len c0 c1 c2 c3 c4 c5 e : Int32) (a t : Addr) (n : Nat) (cf : Nat → Int32) (G1 : Int32) (G3 : Value) (C : Cx w Z "com/example/longhaul/longhaul/IsoMessageIsTypePinLaw" code 13 (some .boolean) "law" room_1 n0 (fun v _ => v = some (.int 1)) Y) (CW : LvW w room_1 n0 (fun v _ => v = some (.int 1)) Y) (E : Exa Z h0 a "java/lang/String") (Fc : Fld Z h0 a "java/lang/String" "coder" "B" (.int 0)) (Fv : Fld Z h0 a "java/lang/String" "value" "[B" (.ref t)) (A : Arw Z h0 t .byte (Int32.ofNat n) (own_lat cf)) (h6 : n ≤ 6) (hc : ∀ j, j < n → 0 ≤ (cf j).toInt ∧ (cf j).toInt < 65536) (O2 : Sta Z Z.heap "java/lang/String" "COMPACT_STRINGS" "Z" (.int G1)) (P5 : ¬ G1 = 0) (OA : Sta Z Z.heap "java/lang/StringUTF16" "$assertionsDisabled" "Z" (.int 1)) (OH : Sta Z Z.heap "java/lang/StringUTF16" "HI_BYTE_SHIFT" "I" (.int 0)) (OL : Sta Z Z.heap "java/lang/StringUTF16" "LO_BYTE_SHIFT" "I" (.int 8)) (X : Old Z n0 h0) (O4 : Sta Z Z.heap "jdk/internal/util/Preconditions" "SIOOBE_FORMATTER" "Ljava/util/function/BiFunction;" G3) (rG3 : G3.isRef = true) (hL : ∀ j, j < n → ¬ 255 < (cf j).toInt) (he : e = 1 ∧ (n = 4 ∧ own_dig (cf 0) ∧ own_dig (cf 1) ∧ own_dig (cf 2) ∧ own_dig (cf 3)) ∨ e = 0 ∧ ¬ (n = 4 ∧ own_dig (cf 0) ∧ own_dig (cf 1) ∧ own_dig (cf 2) ∧ own_dig (cf 3))) :
    Go w l room_1 n0 Y h0 4 28 137 #[.val (.int p0), .val (.int p1), .val (.int p2), .val (.int p3), .val (.int len), .val (.int c0), .val (.int c1), .val (.int c2), .val (.int c3), .val (.int c4), .val (.int c5), .val (.ref a), .val (.int e)] [] := by
  refine g_aload C at_137 (pc' := 139) rfl rfl rfl ?_
  refine g_static (rm := R_s_typeL) C (y := (⟨"com/example/longhaul/longhaul/IsoMessage", "isType", "(Ljava/lang/CharSequence;)Z"⟩ : MethodName)) (hw _ (List.mem_of_getElem? (i := 30) rfl)) (hw _ (List.mem_of_getElem? (i := 31) rfl)) (hw _ (List.mem_of_getElem? (i := 32) rfl)) (hw _ (List.mem_of_getElem? (i := 33) rfl)) (by decide) at_139 (pc' := 142) rfl (argsL := [(.ref a)]) (rest := []) (lenOf pd_17 rfl) rfl (W := 0) (Nat.le_of_eq rfl) rfl (fun hn => Met.back (rm := R_s_typeL) (s_typeL hw a t n cf G1 G3 E Fc Fv A h6 hc O2 P5 OA OH OL X O4 rG3 hL) hn C.hZ (hw _ (List.mem_of_getElem? (i := 33) rfl)) (hw _ (List.mem_of_getElem? (i := 32) rfl)) (by decide) (by decide)) (k' := 4) (n' := 28) rfl rfl (by decide) (by decide) ?_
  rintro _ h9 ⟨i1, rfl, hi⟩
  show Go w l _ n0 _ h9 4 28 142 #[.val (.int p0), .val (.int p1), .val (.int p2), .val (.int p3), .val (.int len), .val (.int c0), .val (.int c1), .val (.int c2), .val (.int c3), .val (.int c4), .val (.int c5), .val (.ref a), .val (.int e)] [(.int i1)]
  refine g_iload C at_142 (pc' := 144) rfl rfl ?_
  refine g_icmp_ne C at_144 (by decide) (pc' := 151) (by decide) (pcN := 147) rfl (fun q => absurd (own_same hi he) q) (fun _ => ?_)
  refine g_iconst C (z := (1 : Int32)) at_147 (pc' := 148) rfl rfl ?_
  refine g_goto C at_148 (by decide) (pc' := 152) (by decide) ?_
  exact g_retN C (t := .boolean) rfl (by simp) at_152 rfl (by decide) (by decide)
set_option maxRecDepth 65536 in
set_option maxHeartbeats 40000000 in
theorem a137U {l : Launch} {Z : State} {a0 : Array Value} (hw : ∀ d ∈ tables_1, d.before a0 Z = true) {w : Wk} {n0 : Nat} {h0 : Heap} {Y : State → Outcome → Prop} (p0 p1 p2 p3 len c0 c1 c2 c3 c4 c5 e : Int32) (a t : Addr) (n : Nat) (cf : Nat → Int32) (G1 : Int32) (G3 : Value) (C : Cx w Z "com/example/longhaul/longhaul/IsoMessageIsTypePinLaw" code 13 (some .boolean) "law" room_1 n0 (fun v _ => v = some (.int 1)) Y) (CW : LvW w room_1 n0 (fun v _ => v = some (.int 1)) Y) (E : Exa Z h0 a "java/lang/String") (Fc : Fld Z h0 a "java/lang/String" "coder" "B" (.int 1)) (Fv : Fld Z h0 a "java/lang/String" "value" "[B" (.ref t)) (A : Arw Z h0 t .byte (Int32.ofNat (2 * n)) (own_utf cf)) (h6 : n ≤ 6) (hc : ∀ j, j < n → 0 ≤ (cf j).toInt ∧ (cf j).toInt < 65536) (O2 : Sta Z Z.heap "java/lang/String" "COMPACT_STRINGS" "Z" (.int G1)) (P5 : ¬ G1 = 0) (OA : Sta Z Z.heap "java/lang/StringUTF16" "$assertionsDisabled" "Z" (.int 1)) (OH : Sta Z Z.heap "java/lang/StringUTF16" "HI_BYTE_SHIFT" "I" (.int 0)) (OL : Sta Z Z.heap "java/lang/StringUTF16" "LO_BYTE_SHIFT" "I" (.int 8)) (X : Old Z n0 h0) (O4 : Sta Z Z.heap "jdk/internal/util/Preconditions" "SIOOBE_FORMATTER" "Ljava/util/function/BiFunction;" G3) (rG3 : G3.isRef = true) (he : e = 1 ∧ (n = 4 ∧ own_dig (cf 0) ∧ own_dig (cf 1) ∧ own_dig (cf 2) ∧ own_dig (cf 3)) ∨ e = 0 ∧ ¬ (n = 4 ∧ own_dig (cf 0) ∧ own_dig (cf 1) ∧ own_dig (cf 2) ∧ own_dig (cf 3))) :
    Go w l room_1 n0 Y h0 4 28 137 #[.val (.int p0), .val (.int p1), .val (.int p2), .val (.int p3), .val (.int len), .val (.int c0), .val (.int c1), .val (.int c2), .val (.int c3), .val (.int c4), .val (.int c5), .val (.ref a), .val (.int e)] [] := by
  refine g_aload C at_137 (pc' := 139) rfl rfl rfl ?_
  refine g_static (rm := R_s_typeU) C (y := (⟨"com/example/longhaul/longhaul/IsoMessage", "isType", "(Ljava/lang/CharSequence;)Z"⟩ : MethodName)) (hw _ (List.mem_of_getElem? (i := 30) rfl)) (hw _ (List.mem_of_getElem? (i := 31) rfl)) (hw _ (List.mem_of_getElem? (i := 32) rfl)) (hw _ (List.mem_of_getElem? (i := 33) rfl)) (by decide) at_139 (pc' := 142) rfl (argsL := [(.ref a)]) (rest := []) (lenOf pd_17 rfl) rfl (W := 0) (Nat.le_of_eq rfl) rfl (fun hn => Met.back (rm := R_s_typeU) (s_typeU hw a t n cf G1 G3 E Fc Fv A h6 hc O2 P5 OA OH OL X O4 rG3) hn C.hZ (hw _ (List.mem_of_getElem? (i := 33) rfl)) (hw _ (List.mem_of_getElem? (i := 32) rfl)) (by decide) (by decide)) (k' := 4) (n' := 28) rfl rfl (by decide) (by decide) ?_
  rintro _ h9 ⟨i1, rfl, hi⟩
  show Go w l _ n0 _ h9 4 28 142 #[.val (.int p0), .val (.int p1), .val (.int p2), .val (.int p3), .val (.int len), .val (.int c0), .val (.int c1), .val (.int c2), .val (.int c3), .val (.int c4), .val (.int c5), .val (.ref a), .val (.int e)] [(.int i1)]
  refine g_iload C at_142 (pc' := 144) rfl rfl ?_
  refine g_icmp_ne C at_144 (by decide) (pc' := 151) (by decide) (pcN := 147) rfl (fun q => absurd (own_same hi he) q) (fun _ => ?_)
  refine g_iconst C (z := (1 : Int32)) at_147 (pc' := 148) rfl rfl ?_
  refine g_goto C at_148 (by decide) (pc' := 152) (by decide) ?_
  exact g_retN C (t := .boolean) rfl (by simp) at_152 rfl (by decide) (by decide)
set_option maxRecDepth 65536 in
set_option maxHeartbeats 40000000 in
theorem law0 {l : Launch} {Z : State} {a0 : Array Value} (hw : ∀ d ∈ tables_1, d.before a0 Z = true) {h0 : Heap} {n0 : Nat} (p0 p1 p2 p3 G1 : Int32) (G3 : Value) (O2 : Sta Z Z.heap "java/lang/String" "COMPACT_STRINGS" "Z" (.int G1)) (P5 : ¬ G1 = 0) (OA : Sta Z Z.heap "java/lang/StringUTF16" "$assertionsDisabled" "Z" (.int 1)) (OH : Sta Z Z.heap "java/lang/StringUTF16" "HI_BYTE_SHIFT" "I" (.int 0)) (OL : Sta Z Z.heap "java/lang/StringUTF16" "LO_BYTE_SHIFT" "I" (.int 8)) (X : Old Z n0 h0) (O4 : Sta Z Z.heap "jdk/internal/util/Preconditions" "SIOOBE_FORMATTER" "Ljava/util/function/BiFunction;" G3) (rG3 : G3.isRef = true) (hh : Jvm.Lit.constHeld Z "java/lang/String" 7) (hcw : Jvm.Lit.compactW.before a0 Z = true) :
    MetWI l Z x code maxLocals ret room_1 n0 h0 #[(.int p0), (.int p1), (.int p2), (.int p3)] (fun v _ => v = some (.int 1)) := by
  refine MetWI.intro (plainFor_of_name (by first | (simp [plainName, overriddenIn, x]; done) | decide +kernel)) (fun m => (show entryFrame m #[(.int p0), (.int p1), (.int p2), (.int p3)] maxLocals = mkF m 0 #[.val (.int p0), .val (.int p1), .val (.int p2), .val (.int p3), .unset, .unset, .unset, .unset, .unset, .unset, .unset, .unset, .unset] [] from by first | rfl | (simp [entryFrame, mkF, argsToLocals, Value.category, maxLocals]; done))) (fun w Y C CW hH hI => ?_)
  have C : Cx w Z "com/example/longhaul/longhaul/IsoMessageIsTypePinLaw" code 13 (some .boolean) "law" room_1 n0 _ Y := C
  refine g_iloadN C at_0 (pc' := 1) rfl rfl ?_
  refine g_sipush C (z := (255 : Int32)) at_1 (pc' := 4) rfl rfl ?_
  refine g_iand C at_4 (pc' := 5) rfl ?_
  refine g_bipush C (z := (7 : Int32)) at_5 (pc' := 7) rfl rfl ?_
  refine g_irem C at_7 (pc' := 8) rfl (by decide) ?_
  refine g_istore C at_8 (pc' := 10) rfl (Ls' := #[.val (.int p0), .val (.int p1), .val (.int p2), .val (.int p3), .val (.int ((p0 &&& (255 : Int32)) % (7 : Int32))), .unset, .unset, .unset, .unset, .unset, .unset, .unset, .unset]) rfl ?_
  refine g_iloadN C at_10 (pc' := 11) rfl rfl ?_
  refine g_iloadN C at_11 (pc' := 12) rfl rfl ?_
  refine g_bipush C (z := (8 : Int32)) at_12 (pc' := 14) rfl rfl ?_
  refine g_static (rm := R_s_draw) C (y := (⟨"com/example/longhaul/longhaul/IsoMessageIsTypePinLaw", "draw", "(III)C"⟩ : MethodName)) (hw _ (List.mem_of_getElem? (i := 0) rfl)) (hw _ (List.mem_of_getElem? (i := 1) rfl)) (hw _ (List.mem_of_getElem? (i := 2) rfl)) (hw _ (List.mem_of_getElem? (i := 3) rfl)) (by decide) at_14 (pc' := 17) rfl (argsL := [(.int p1), (.int p0), (.int (8 : Int32))]) (rest := []) (lenOf pd_18 rfl) rfl (W := 0) (Nat.le_of_eq rfl) rfl (fun hn => Met.back (rm := R_s_draw) (s_draw hw p1 p0 (8 : Int32)) hn C.hZ (hw _ (List.mem_of_getElem? (i := 3) rfl)) (hw _ (List.mem_of_getElem? (i := 2) rfl)) (by decide) (by decide)) (k' := 0) (n' := 0) rfl rfl (by decide) (by decide) ?_
  rintro _ _ ⟨rfl, c0, rfl, b0⟩
  show Go w l _ n0 _ h0 0 0 17 #[.val (.int p0), .val (.int p1), .val (.int p2), .val (.int p3), .val (.int ((p0 &&& (255 : Int32)) % (7 : Int32))), .unset, .unset, .unset, .unset, .unset, .unset, .unset, .unset] [(.int c0)]
  refine g_istore C at_17 (pc' := 19) rfl (Ls' := #[.val (.int p0), .val (.int p1), .val (.int p2), .val (.int p3), .val (.int ((p0 &&& (255 : Int32)) % (7 : Int32))), .val (.int c0), .unset, .unset, .unset, .unset, .unset, .unset, .unset]) rfl ?_
  refine g_iloadN C at_19 (pc' := 20) rfl rfl ?_
  refine g_bipush C (z := (16 : Int32)) at_20 (pc' := 22) rfl rfl ?_
  refine g_iushr C at_22 (pc' := 23) rfl ?_
  refine g_iloadN C at_23 (pc' := 24) rfl rfl ?_
  refine g_bipush C (z := (9 : Int32)) at_24 (pc' := 26) rfl rfl ?_
  refine g_static (rm := R_s_draw) C (y := (⟨"com/example/longhaul/longhaul/IsoMessageIsTypePinLaw", "draw", "(III)C"⟩ : MethodName)) (hw _ (List.mem_of_getElem? (i := 0) rfl)) (hw _ (List.mem_of_getElem? (i := 1) rfl)) (hw _ (List.mem_of_getElem? (i := 2) rfl)) (hw _ (List.mem_of_getElem? (i := 3) rfl)) (by decide) at_26 (pc' := 29) rfl (argsL := [(.int ((p1.toUInt32 >>> ((16 : Int32) &&& 31).toUInt32).toInt32)), (.int p0), (.int (9 : Int32))]) (rest := []) (lenOf pd_18 rfl) rfl (W := 0) (Nat.le_of_eq rfl) rfl (fun hn => Met.back (rm := R_s_draw) (s_draw hw ((p1.toUInt32 >>> ((16 : Int32) &&& 31).toUInt32).toInt32) p0 (9 : Int32)) hn C.hZ (hw _ (List.mem_of_getElem? (i := 3) rfl)) (hw _ (List.mem_of_getElem? (i := 2) rfl)) (by decide) (by decide)) (k' := 0) (n' := 0) rfl rfl (by decide) (by decide) ?_
  rintro _ _ ⟨rfl, c1, rfl, b1⟩
  show Go w l _ n0 _ h0 0 0 29 #[.val (.int p0), .val (.int p1), .val (.int p2), .val (.int p3), .val (.int ((p0 &&& (255 : Int32)) % (7 : Int32))), .val (.int c0), .unset, .unset, .unset, .unset, .unset, .unset, .unset] [(.int c1)]
  refine g_istore C at_29 (pc' := 31) rfl (Ls' := #[.val (.int p0), .val (.int p1), .val (.int p2), .val (.int p3), .val (.int ((p0 &&& (255 : Int32)) % (7 : Int32))), .val (.int c0), .val (.int c1), .unset, .unset, .unset, .unset, .unset, .unset]) rfl ?_
  refine g_iloadN C at_31 (pc' := 32) rfl rfl ?_
  refine g_iloadN C at_32 (pc' := 33) rfl rfl ?_
  refine g_bipush C (z := (10 : Int32)) at_33 (pc' := 35) rfl rfl ?_
  refine g_static (rm := R_s_draw) C (y := (⟨"com/example/longhaul/longhaul/IsoMessageIsTypePinLaw", "draw", "(III)C"⟩ : MethodName)) (hw _ (List.mem_of_getElem? (i := 0) rfl)) (hw _ (List.mem_of_getElem? (i := 1) rfl)) (hw _ (List.mem_of_getElem? (i := 2) rfl)) (hw _ (List.mem_of_getElem? (i := 3) rfl)) (by decide) at_35 (pc' := 38) rfl (argsL := [(.int p2), (.int p0), (.int (10 : Int32))]) (rest := []) (lenOf pd_18 rfl) rfl (W := 0) (Nat.le_of_eq rfl) rfl (fun hn => Met.back (rm := R_s_draw) (s_draw hw p2 p0 (10 : Int32)) hn C.hZ (hw _ (List.mem_of_getElem? (i := 3) rfl)) (hw _ (List.mem_of_getElem? (i := 2) rfl)) (by decide) (by decide)) (k' := 0) (n' := 0) rfl rfl (by decide) (by decide) ?_
  rintro _ _ ⟨rfl, c2, rfl, b2⟩
  show Go w l _ n0 _ h0 0 0 38 #[.val (.int p0), .val (.int p1), .val (.int p2), .val (.int p3), .val (.int ((p0 &&& (255 : Int32)) % (7 : Int32))), .val (.int c0), .val (.int c1), .unset, .unset, .unset, .unset, .unset, .unset] [(.int c2)]
  refine g_istore C at_38 (pc' := 40) rfl (Ls' := #[.val (.int p0), .val (.int p1), .val (.int p2), .val (.int p3), .val (.int ((p0 &&& (255 : Int32)) % (7 : Int32))), .val (.int c0), .val (.int c1), .val (.int c2), .unset, .unset, .unset, .unset, .unset]) rfl ?_
  refine g_iloadN C at_40 (pc' := 41) rfl rfl ?_
  refine g_bipush C (z := (16 : Int32)) at_41 (pc' := 43) rfl rfl ?_
  refine g_iushr C at_43 (pc' := 44) rfl ?_
  refine g_iloadN C at_44 (pc' := 45) rfl rfl ?_
  refine g_bipush C (z := (11 : Int32)) at_45 (pc' := 47) rfl rfl ?_
  refine g_static (rm := R_s_draw) C (y := (⟨"com/example/longhaul/longhaul/IsoMessageIsTypePinLaw", "draw", "(III)C"⟩ : MethodName)) (hw _ (List.mem_of_getElem? (i := 0) rfl)) (hw _ (List.mem_of_getElem? (i := 1) rfl)) (hw _ (List.mem_of_getElem? (i := 2) rfl)) (hw _ (List.mem_of_getElem? (i := 3) rfl)) (by decide) at_47 (pc' := 50) rfl (argsL := [(.int ((p2.toUInt32 >>> ((16 : Int32) &&& 31).toUInt32).toInt32)), (.int p0), (.int (11 : Int32))]) (rest := []) (lenOf pd_18 rfl) rfl (W := 0) (Nat.le_of_eq rfl) rfl (fun hn => Met.back (rm := R_s_draw) (s_draw hw ((p2.toUInt32 >>> ((16 : Int32) &&& 31).toUInt32).toInt32) p0 (11 : Int32)) hn C.hZ (hw _ (List.mem_of_getElem? (i := 3) rfl)) (hw _ (List.mem_of_getElem? (i := 2) rfl)) (by decide) (by decide)) (k' := 0) (n' := 0) rfl rfl (by decide) (by decide) ?_
  rintro _ _ ⟨rfl, c3, rfl, b3⟩
  show Go w l _ n0 _ h0 0 0 50 #[.val (.int p0), .val (.int p1), .val (.int p2), .val (.int p3), .val (.int ((p0 &&& (255 : Int32)) % (7 : Int32))), .val (.int c0), .val (.int c1), .val (.int c2), .unset, .unset, .unset, .unset, .unset] [(.int c3)]
  refine g_istore C at_50 (pc' := 52) rfl (Ls' := #[.val (.int p0), .val (.int p1), .val (.int p2), .val (.int p3), .val (.int ((p0 &&& (255 : Int32)) % (7 : Int32))), .val (.int c0), .val (.int c1), .val (.int c2), .val (.int c3), .unset, .unset, .unset, .unset]) rfl ?_
  refine g_iloadN C at_52 (pc' := 53) rfl rfl ?_
  refine g_iloadN C at_53 (pc' := 54) rfl rfl ?_
  refine g_bipush C (z := (12 : Int32)) at_54 (pc' := 56) rfl rfl ?_
  refine g_static (rm := R_s_draw) C (y := (⟨"com/example/longhaul/longhaul/IsoMessageIsTypePinLaw", "draw", "(III)C"⟩ : MethodName)) (hw _ (List.mem_of_getElem? (i := 0) rfl)) (hw _ (List.mem_of_getElem? (i := 1) rfl)) (hw _ (List.mem_of_getElem? (i := 2) rfl)) (hw _ (List.mem_of_getElem? (i := 3) rfl)) (by decide) at_56 (pc' := 59) rfl (argsL := [(.int p3), (.int p0), (.int (12 : Int32))]) (rest := []) (lenOf pd_18 rfl) rfl (W := 0) (Nat.le_of_eq rfl) rfl (fun hn => Met.back (rm := R_s_draw) (s_draw hw p3 p0 (12 : Int32)) hn C.hZ (hw _ (List.mem_of_getElem? (i := 3) rfl)) (hw _ (List.mem_of_getElem? (i := 2) rfl)) (by decide) (by decide)) (k' := 0) (n' := 0) rfl rfl (by decide) (by decide) ?_
  rintro _ _ ⟨rfl, c4, rfl, b4⟩
  show Go w l _ n0 _ h0 0 0 59 #[.val (.int p0), .val (.int p1), .val (.int p2), .val (.int p3), .val (.int ((p0 &&& (255 : Int32)) % (7 : Int32))), .val (.int c0), .val (.int c1), .val (.int c2), .val (.int c3), .unset, .unset, .unset, .unset] [(.int c4)]
  refine g_istore C at_59 (pc' := 61) rfl (Ls' := #[.val (.int p0), .val (.int p1), .val (.int p2), .val (.int p3), .val (.int ((p0 &&& (255 : Int32)) % (7 : Int32))), .val (.int c0), .val (.int c1), .val (.int c2), .val (.int c3), .val (.int c4), .unset, .unset, .unset]) rfl ?_
  refine g_iloadN C at_61 (pc' := 62) rfl rfl ?_
  refine g_bipush C (z := (16 : Int32)) at_62 (pc' := 64) rfl rfl ?_
  refine g_iushr C at_64 (pc' := 65) rfl ?_
  refine g_iloadN C at_65 (pc' := 66) rfl rfl ?_
  refine g_bipush C (z := (13 : Int32)) at_66 (pc' := 68) rfl rfl ?_
  refine g_static (rm := R_s_draw) C (y := (⟨"com/example/longhaul/longhaul/IsoMessageIsTypePinLaw", "draw", "(III)C"⟩ : MethodName)) (hw _ (List.mem_of_getElem? (i := 0) rfl)) (hw _ (List.mem_of_getElem? (i := 1) rfl)) (hw _ (List.mem_of_getElem? (i := 2) rfl)) (hw _ (List.mem_of_getElem? (i := 3) rfl)) (by decide) at_68 (pc' := 71) rfl (argsL := [(.int ((p3.toUInt32 >>> ((16 : Int32) &&& 31).toUInt32).toInt32)), (.int p0), (.int (13 : Int32))]) (rest := []) (lenOf pd_18 rfl) rfl (W := 0) (Nat.le_of_eq rfl) rfl (fun hn => Met.back (rm := R_s_draw) (s_draw hw ((p3.toUInt32 >>> ((16 : Int32) &&& 31).toUInt32).toInt32) p0 (13 : Int32)) hn C.hZ (hw _ (List.mem_of_getElem? (i := 3) rfl)) (hw _ (List.mem_of_getElem? (i := 2) rfl)) (by decide) (by decide)) (k' := 0) (n' := 0) rfl rfl (by decide) (by decide) ?_
  rintro _ _ ⟨rfl, c5, rfl, b5⟩
  show Go w l _ n0 _ h0 0 0 71 #[.val (.int p0), .val (.int p1), .val (.int p2), .val (.int p3), .val (.int ((p0 &&& (255 : Int32)) % (7 : Int32))), .val (.int c0), .val (.int c1), .val (.int c2), .val (.int c3), .val (.int c4), .unset, .unset, .unset] [(.int c5)]
  refine g_istore C at_71 (pc' := 73) rfl (Ls' := #[.val (.int p0), .val (.int p1), .val (.int p2), .val (.int p3), .val (.int ((p0 &&& (255 : Int32)) % (7 : Int32))), .val (.int c0), .val (.int c1), .val (.int c2), .val (.int c3), .val (.int c4), .val (.int c5), .unset, .unset]) rfl ?_
  refine g_iload C at_73 (pc' := 75) rfl rfl ?_
  refine g_iload C at_75 (pc' := 77) rfl rfl ?_
  refine g_iload C at_77 (pc' := 79) rfl rfl ?_
  refine g_iload C at_79 (pc' := 81) rfl rfl ?_
  refine g_iload C at_81 (pc' := 83) rfl rfl ?_
  refine g_iload C at_83 (pc' := 85) rfl rfl ?_
  refine g_iload C at_85 (pc' := 87) rfl rfl ?_
  generalize hlen : ((p0 &&& (255 : Int32)) % (7 : Int32)) = len
  refine g_staticS (rm := R_s_text) C CW (y := (⟨"com/example/longhaul/longhaul/IsoMessageIsTypePinLaw", "text", "(ICCCCCC)Ljava/lang/String;"⟩ : MethodName)) (hw _ (List.mem_of_getElem? (i := 5) rfl)) (hw _ (List.mem_of_getElem? (i := 6) rfl)) (hw _ (List.mem_of_getElem? (i := 2) rfl)) (hw _ (List.mem_of_getElem? (i := 7) rfl)) (by decide) at_87 (pc' := 90) rfl (argsL := [(.int len), (.int c0), (.int c1), (.int c2), (.int c3), (.int c4), (.int c5)]) (rest := []) (lenOf pd_19 rfl) rfl (W := 0) (Nat.le_of_eq rfl) rfl (fun hn => MetWI.back (rm := R_s_text) (s_text hw len c0 c1 c2 c3 c4 c5 G1 ⟨b0, b1, b2, b3, b4, b5⟩ O2 P5 OA OH OL X hh hcw) hn C.hZ hI (hw _ (List.mem_of_getElem? (i := 7) rfl)) (hw _ (List.mem_of_getElem? (i := 2) rfl)) (by decide) (by decide)) (k' := 4) (n' := 28) rfl rfl (by decide) (by decide) ?_
  rintro w _ h9 C CW ⟨a, n, cf, rfl, X, hs, h6, hc, ht⟩
  show Go w l _ n0 _ h9 4 28 90 #[.val (.int p0), .val (.int p1), .val (.int p2), .val (.int p3), .val (.int len), .val (.int c0), .val (.int c1), .val (.int c2), .val (.int c3), .val (.int c4), .val (.int c5), .unset, .unset] [(.ref a)]
  refine g_astore C at_90 (pc' := 92) rfl rfl (Ls' := #[.val (.int p0), .val (.int p1), .val (.int p2), .val (.int p3), .val (.int len), .val (.int c0), .val (.int c1), .val (.int c2), .val (.int c3), .val (.int c4), .val (.int c5), .val (.ref a), .unset]) rfl ?_
  refine g_iload C at_92 (pc' := 94) rfl rfl ?_
  refine g_iconst C (z := (4 : Int32)) at_94 (pc' := 95) rfl rfl ?_
  refine g_icmp_ne C at_95 (by decide) (pc' := 134) (by decide) (pcN := 98) rfl (fun q95 => ?_) (fun q95 => ?_)
  · refine g_iconst C (z := (0 : Int32)) at_134 (pc' := 135) rfl rfl ?_
    refine g_istore C at_135 (pc' := 137) rfl (Ls' := #[.val (.int p0), .val (.int p1), .val (.int p2), .val (.int p3), .val (.int len), .val (.int c0), .val (.int c1), .val (.int c2), .val (.int c3), .val (.int c4), .val (.int c5), .val (.ref a), .val (.int (0 : Int32))]) rfl ?_
    exact hs.2.elim (fun ⟨t, Fc, Fv, A, hL⟩ => a137L (C := C) hw p0 p1 p2 p3 len c0 c1 c2 c3 c4 c5 (0 : Int32) a t n cf G1 G3 CW hs.1 Fc Fv A h6 hc O2 P5 OA OH OL X O4 rG3 hL (Or.inr ⟨rfl, fun z => ht.elim (fun y => q95 y.1) (fun y => y.2 z.1)⟩)) (fun ⟨t, Fc, Fv, A⟩ => a137U (C := C) hw p0 p1 p2 p3 len c0 c1 c2 c3 c4 c5 (0 : Int32) a t n cf G1 G3 CW hs.1 Fc Fv A h6 hc O2 P5 OA OH OL X O4 rG3 (Or.inr ⟨rfl, fun z => ht.elim (fun y => q95 y.1) (fun y => y.2 z.1)⟩))
  · refine g_iload C at_98 (pc' := 100) rfl rfl ?_
    refine g_static (rm := R_s_dig) C (y := (⟨"com/example/longhaul/longhaul/IsoMessageIsTypePinLaw", "digit", "(C)Z"⟩ : MethodName)) (hw _ (List.mem_of_getElem? (i := 78) rfl)) (hw _ (List.mem_of_getElem? (i := 79) rfl)) (hw _ (List.mem_of_getElem? (i := 2) rfl)) (hw _ (List.mem_of_getElem? (i := 80) rfl)) (by decide) at_100 (pc' := 103) rfl (argsL := [(.int c0)]) (rest := []) (lenOf pd_20 rfl) rfl (W := 0) (Nat.le_of_eq rfl) rfl (fun hn => Met.back (rm := R_s_dig) (s_dig hw c0) hn C.hZ (hw _ (List.mem_of_getElem? (i := 80) rfl)) (hw _ (List.mem_of_getElem? (i := 2) rfl)) (by decide) (by decide)) (k' := 4) (n' := 28) rfl rfl (by decide) (by decide) ?_
    rintro _ _ ⟨rfl, d0, rfl, hd0⟩
    show Go w l _ n0 _ h9 4 28 103 #[.val (.int p0), .val (.int p1), .val (.int p2), .val (.int p3), .val (.int len), .val (.int c0), .val (.int c1), .val (.int c2), .val (.int c3), .val (.int c4), .val (.int c5), .val (.ref a), .unset] [(.int d0)]
    refine g_if_eq C at_103 (by decide) (pc' := 134) (by decide) (pcN := 106) rfl (fun q103 => ?_) (fun q103 => ?_)
    · refine g_iconst C (z := (0 : Int32)) at_134 (pc' := 135) rfl rfl ?_
      refine g_istore C at_135 (pc' := 137) rfl (Ls' := #[.val (.int p0), .val (.int p1), .val (.int p2), .val (.int p3), .val (.int len), .val (.int c0), .val (.int c1), .val (.int c2), .val (.int c3), .val (.int c4), .val (.int c5), .val (.ref a), .val (.int (0 : Int32))]) rfl ?_
      exact hs.2.elim (fun ⟨t, Fc, Fv, A, hL⟩ => a137L (C := C) hw p0 p1 p2 p3 len c0 c1 c2 c3 c4 c5 (0 : Int32) a t n cf G1 G3 CW hs.1 Fc Fv A h6 hc O2 P5 OA OH OL X O4 rG3 hL (Or.inr ⟨rfl, fun z => own_no hd0 q103 (ht.elim (fun y => (y.2.2.1 : cf 0 = c0) ▸ z.2.1) (fun y => absurd z.1 y.2))⟩)) (fun ⟨t, Fc, Fv, A⟩ => a137U (C := C) hw p0 p1 p2 p3 len c0 c1 c2 c3 c4 c5 (0 : Int32) a t n cf G1 G3 CW hs.1 Fc Fv A h6 hc O2 P5 OA OH OL X O4 rG3 (Or.inr ⟨rfl, fun z => own_no hd0 q103 (ht.elim (fun y => (y.2.2.1 : cf 0 = c0) ▸ z.2.1) (fun y => absurd z.1 y.2))⟩))
    · refine g_iload C at_106 (pc' := 108) rfl rfl ?_
      refine g_static (rm := R_s_dig) C (y := (⟨"com/example/longhaul/longhaul/IsoMessageIsTypePinLaw", "digit", "(C)Z"⟩ : MethodName)) (hw _ (List.mem_of_getElem? (i := 78) rfl)) (hw _ (List.mem_of_getElem? (i := 79) rfl)) (hw _ (List.mem_of_getElem? (i := 2) rfl)) (hw _ (List.mem_of_getElem? (i := 80) rfl)) (by decide) at_108 (pc' := 111) rfl (argsL := [(.int c1)]) (rest := []) (lenOf pd_20 rfl) rfl (W := 0) (Nat.le_of_eq rfl) rfl (fun hn => Met.back (rm := R_s_dig) (s_dig hw c1) hn C.hZ (hw _ (List.mem_of_getElem? (i := 80) rfl)) (hw _ (List.mem_of_getElem? (i := 2) rfl)) (by decide) (by decide)) (k' := 4) (n' := 28) rfl rfl (by decide) (by decide) ?_
      rintro _ _ ⟨rfl, d1, rfl, hd1⟩
      show Go w l _ n0 _ h9 4 28 111 #[.val (.int p0), .val (.int p1), .val (.int p2), .val (.int p3), .val (.int len), .val (.int c0), .val (.int c1), .val (.int c2), .val (.int c3), .val (.int c4), .val (.int c5), .val (.ref a), .unset] [(.int d1)]
      refine g_if_eq C at_111 (by decide) (pc' := 134) (by decide) (pcN := 114) rfl (fun q111 => ?_) (fun q111 => ?_)
      · refine g_iconst C (z := (0 : Int32)) at_134 (pc' := 135) rfl rfl ?_
        refine g_istore C at_135 (pc' := 137) rfl (Ls' := #[.val (.int p0), .val (.int p1), .val (.int p2), .val (.int p3), .val (.int len), .val (.int c0), .val (.int c1), .val (.int c2), .val (.int c3), .val (.int c4), .val (.int c5), .val (.ref a), .val (.int (0 : Int32))]) rfl ?_
        exact hs.2.elim (fun ⟨t, Fc, Fv, A, hL⟩ => a137L (C := C) hw p0 p1 p2 p3 len c0 c1 c2 c3 c4 c5 (0 : Int32) a t n cf G1 G3 CW hs.1 Fc Fv A h6 hc O2 P5 OA OH OL X O4 rG3 hL (Or.inr ⟨rfl, fun z => own_no hd1 q111 (ht.elim (fun y => (y.2.2.2.1 : cf 1 = c1) ▸ z.2.2.1) (fun y => absurd z.1 y.2))⟩)) (fun ⟨t, Fc, Fv, A⟩ => a137U (C := C) hw p0 p1 p2 p3 len c0 c1 c2 c3 c4 c5 (0 : Int32) a t n cf G1 G3 CW hs.1 Fc Fv A h6 hc O2 P5 OA OH OL X O4 rG3 (Or.inr ⟨rfl, fun z => own_no hd1 q111 (ht.elim (fun y => (y.2.2.2.1 : cf 1 = c1) ▸ z.2.2.1) (fun y => absurd z.1 y.2))⟩))
      · refine g_iload C at_114 (pc' := 116) rfl rfl ?_
        refine g_static (rm := R_s_dig) C (y := (⟨"com/example/longhaul/longhaul/IsoMessageIsTypePinLaw", "digit", "(C)Z"⟩ : MethodName)) (hw _ (List.mem_of_getElem? (i := 78) rfl)) (hw _ (List.mem_of_getElem? (i := 79) rfl)) (hw _ (List.mem_of_getElem? (i := 2) rfl)) (hw _ (List.mem_of_getElem? (i := 80) rfl)) (by decide) at_116 (pc' := 119) rfl (argsL := [(.int c2)]) (rest := []) (lenOf pd_20 rfl) rfl (W := 0) (Nat.le_of_eq rfl) rfl (fun hn => Met.back (rm := R_s_dig) (s_dig hw c2) hn C.hZ (hw _ (List.mem_of_getElem? (i := 80) rfl)) (hw _ (List.mem_of_getElem? (i := 2) rfl)) (by decide) (by decide)) (k' := 4) (n' := 28) rfl rfl (by decide) (by decide) ?_
        rintro _ _ ⟨rfl, d2, rfl, hd2⟩
        show Go w l _ n0 _ h9 4 28 119 #[.val (.int p0), .val (.int p1), .val (.int p2), .val (.int p3), .val (.int len), .val (.int c0), .val (.int c1), .val (.int c2), .val (.int c3), .val (.int c4), .val (.int c5), .val (.ref a), .unset] [(.int d2)]
        refine g_if_eq C at_119 (by decide) (pc' := 134) (by decide) (pcN := 122) rfl (fun q119 => ?_) (fun q119 => ?_)
        · refine g_iconst C (z := (0 : Int32)) at_134 (pc' := 135) rfl rfl ?_
          refine g_istore C at_135 (pc' := 137) rfl (Ls' := #[.val (.int p0), .val (.int p1), .val (.int p2), .val (.int p3), .val (.int len), .val (.int c0), .val (.int c1), .val (.int c2), .val (.int c3), .val (.int c4), .val (.int c5), .val (.ref a), .val (.int (0 : Int32))]) rfl ?_
          exact hs.2.elim (fun ⟨t, Fc, Fv, A, hL⟩ => a137L (C := C) hw p0 p1 p2 p3 len c0 c1 c2 c3 c4 c5 (0 : Int32) a t n cf G1 G3 CW hs.1 Fc Fv A h6 hc O2 P5 OA OH OL X O4 rG3 hL (Or.inr ⟨rfl, fun z => own_no hd2 q119 (ht.elim (fun y => (y.2.2.2.2.1 : cf 2 = c2) ▸ z.2.2.2.1) (fun y => absurd z.1 y.2))⟩)) (fun ⟨t, Fc, Fv, A⟩ => a137U (C := C) hw p0 p1 p2 p3 len c0 c1 c2 c3 c4 c5 (0 : Int32) a t n cf G1 G3 CW hs.1 Fc Fv A h6 hc O2 P5 OA OH OL X O4 rG3 (Or.inr ⟨rfl, fun z => own_no hd2 q119 (ht.elim (fun y => (y.2.2.2.2.1 : cf 2 = c2) ▸ z.2.2.2.1) (fun y => absurd z.1 y.2))⟩))
        · refine g_iload C at_122 (pc' := 124) rfl rfl ?_
          refine g_static (rm := R_s_dig) C (y := (⟨"com/example/longhaul/longhaul/IsoMessageIsTypePinLaw", "digit", "(C)Z"⟩ : MethodName)) (hw _ (List.mem_of_getElem? (i := 78) rfl)) (hw _ (List.mem_of_getElem? (i := 79) rfl)) (hw _ (List.mem_of_getElem? (i := 2) rfl)) (hw _ (List.mem_of_getElem? (i := 80) rfl)) (by decide) at_124 (pc' := 127) rfl (argsL := [(.int c3)]) (rest := []) (lenOf pd_20 rfl) rfl (W := 0) (Nat.le_of_eq rfl) rfl (fun hn => Met.back (rm := R_s_dig) (s_dig hw c3) hn C.hZ (hw _ (List.mem_of_getElem? (i := 80) rfl)) (hw _ (List.mem_of_getElem? (i := 2) rfl)) (by decide) (by decide)) (k' := 4) (n' := 28) rfl rfl (by decide) (by decide) ?_
          rintro _ _ ⟨rfl, d3, rfl, hd3⟩
          show Go w l _ n0 _ h9 4 28 127 #[.val (.int p0), .val (.int p1), .val (.int p2), .val (.int p3), .val (.int len), .val (.int c0), .val (.int c1), .val (.int c2), .val (.int c3), .val (.int c4), .val (.int c5), .val (.ref a), .unset] [(.int d3)]
          refine g_if_eq C at_127 (by decide) (pc' := 134) (by decide) (pcN := 130) rfl (fun q127 => ?_) (fun q127 => ?_)
          · refine g_iconst C (z := (0 : Int32)) at_134 (pc' := 135) rfl rfl ?_
            refine g_istore C at_135 (pc' := 137) rfl (Ls' := #[.val (.int p0), .val (.int p1), .val (.int p2), .val (.int p3), .val (.int len), .val (.int c0), .val (.int c1), .val (.int c2), .val (.int c3), .val (.int c4), .val (.int c5), .val (.ref a), .val (.int (0 : Int32))]) rfl ?_
            exact hs.2.elim (fun ⟨t, Fc, Fv, A, hL⟩ => a137L (C := C) hw p0 p1 p2 p3 len c0 c1 c2 c3 c4 c5 (0 : Int32) a t n cf G1 G3 CW hs.1 Fc Fv A h6 hc O2 P5 OA OH OL X O4 rG3 hL (Or.inr ⟨rfl, fun z => own_no hd3 q127 (ht.elim (fun y => (y.2.2.2.2.2 : cf 3 = c3) ▸ z.2.2.2.2) (fun y => absurd z.1 y.2))⟩)) (fun ⟨t, Fc, Fv, A⟩ => a137U (C := C) hw p0 p1 p2 p3 len c0 c1 c2 c3 c4 c5 (0 : Int32) a t n cf G1 G3 CW hs.1 Fc Fv A h6 hc O2 P5 OA OH OL X O4 rG3 (Or.inr ⟨rfl, fun z => own_no hd3 q127 (ht.elim (fun y => (y.2.2.2.2.2 : cf 3 = c3) ▸ z.2.2.2.2) (fun y => absurd z.1 y.2))⟩))
          · refine g_iconst C (z := (1 : Int32)) at_130 (pc' := 131) rfl rfl ?_
            refine g_goto C at_131 (by decide) (pc' := 135) (by decide) ?_
            refine g_istore C at_135 (pc' := 137) rfl (Ls' := #[.val (.int p0), .val (.int p1), .val (.int p2), .val (.int p3), .val (.int len), .val (.int c0), .val (.int c1), .val (.int c2), .val (.int c3), .val (.int c4), .val (.int c5), .val (.ref a), .val (.int (1 : Int32))]) rfl ?_
            exact hs.2.elim (fun ⟨t, Fc, Fv, A, hL⟩ => a137L (C := C) hw p0 p1 p2 p3 len c0 c1 c2 c3 c4 c5 (1 : Int32) a t n cf G1 G3 CW hs.1 Fc Fv A h6 hc O2 P5 OA OH OL X O4 rG3 hL (Or.inl ⟨rfl, own_yes ht q95 hd0 hd1 hd2 hd3 q103 q111 q119 q127⟩)) (fun ⟨t, Fc, Fv, A⟩ => a137U (C := C) hw p0 p1 p2 p3 len c0 c1 c2 c3 c4 c5 (1 : Int32) a t n cf G1 G3 CW hs.1 Fc Fv A h6 hc O2 P5 OA OH OL X O4 rG3 (Or.inl ⟨rfl, own_yes ht q95 hd0 hd1 hd2 hd3 q103 q111 q119 q127⟩))
set_option maxRecDepth 65536 in
set_option maxHeartbeats 40000000 in
theorem comes_1 {Post : Tables → Env → Array Value → State → Outcome → State → Prop} (hpost : ∀ tb e args s v u, (limb_1_1.after args s (.returned v) u = true ∧ limb_1_2.after args s (.returned v) u = true ∧ True) → ReturnedEndW s (.returned v) u (Jvm.fieldLocs frame_1_writes args s ++ Jvm.arrayLocs frame_1_arrays args s ++ Jvm.staticLocs frame_1_statics s) 24 1152 → Post tb e args s (.returned v) u) :
    ArmFor flags0 classFile x code maxLocals ret World_1 tables_1 room_1 Calls_1 rest_1 Pre_1 Post := by
  intro l hfl _ _ p e ha hc hk s m args below hf hA hF happ hP
  obtain ⟨hcalls, hrest, hpre⟩ := hP
  obtain ⟨-, -, -, hnamed, -, -, -, hat⟩ := (Spec.applies_iff hf).mp happ
  obtain ⟨hg, hn⟩ := and_e (Cond.before_iff.mp (show (Jvm.Cond.and given_1 narrow_1).before args s = true from hpre))
  obtain ⟨g0, r0⟩ := and_e hg
  obtain ⟨g1, r1⟩ := and_e r0
  obtain ⟨g2, r2⟩ := and_e r1
  obtain ⟨g3, r3⟩ := and_e r2
  have g4 := r3
  obtain ⟨w0, w1, w2, w3, rfl⟩ : ∃ w0 w1 w2 w3 : Value, args = #[w0, w1, w2, w3] := by
    have hs : args.size = 4 := by simpa [Cond.value, given_1] using g0
    obtain ⟨L⟩ := args
    match L, hs with
    | [w0, w1, w2, w3], _ => exact ⟨w0, w1, w2, w3, rfl⟩
  have hw := fun d (hd : d ∈ tables_1) => atoms_spec (ws := Jvm.Cond.code x code maxLocals ret :: tables_1) hat d (List.mem_cons_of_mem _ hd)
  have hfit : Fit s := fun {y c} hc i hi => by
    obtain ⟨ha, rfl⟩ := Array.getElem?_eq_some_iff.mp hc
    have q := List.all_eq_true.mp ((Array.all_eq_true_iff_forall_mem.mp hF) _ (Array.getElem_mem ha)) i (List.mem_range.mpr hi)
    simpa [Array.getElem?_eq_getElem hi] using q
  obtain ⟨i0, ei0⟩ := is_v g1
  obtain rfl : w0 = (.int i0) := Option.some.inj ei0
  obtain ⟨i1, ei1⟩ := is_v g2
  obtain rfl : w1 = (.int i1) := Option.some.inj ei1
  obtain ⟨i2, ei2⟩ := is_v g3
  obtain rfl : w2 = (.int i2) := Option.some.inj ei2
  obtain ⟨i3, ei3⟩ := is_v g4
  obtain rfl : w3 = (.int i3) := Option.some.inj ei3
  obtain ⟨hsets, hown0⟩ := atoms_of _ (rest_1_c_eq ▸ (show rest_1_c.before _ s = true from hrest))
  have n3 := not_v (Cond.before_iff.mp (hsets _ (List.mem_of_getElem? (i := 2) rfl)))
  obtain ⟨G1, eG1⟩ := is_v (Cond.before_iff.mp (hsets _ (List.mem_of_getElem? (i := 1) rfl)))
  have O2 : Sta s s.heap "java/lang/String" "COMPACT_STRINGS" "Z" (.int G1) := Sta.start eG1 (Or.inl (hsets _ (List.mem_of_getElem? (i := 0) rfl)))
  have P5 : ¬ (G1 = (0 : Int32)) := gotF (Cond.eq_ints eG1 (Term.int_eval (0))) n3
  obtain ⟨G3, eG3, rG3⟩ := isR_v (Cond.before_iff.mp (hsets _ (List.mem_of_getElem? (i := 8) rfl)))
  have O4 : Sta s s.heap "jdk/internal/util/Preconditions" "SIOOBE_FORMATTER" "Ljava/util/function/BiFunction;" G3 := Sta.start eG3 (Or.inl (hsets _ (List.mem_of_getElem? (i := 7) rfl)))
  have OA : Sta s s.heap "java/lang/StringUTF16" "$assertionsDisabled" "Z" (.int 1) := Sta.start (own_steq (Cond.before_iff.mp (hsets _ (List.mem_of_getElem? (i := 12) rfl)))) (Or.inl (hsets _ (List.mem_of_getElem? (i := 11) rfl)))
  have OH : Sta s s.heap "java/lang/StringUTF16" "HI_BYTE_SHIFT" "I" (.int 0) := Sta.start (own_steq (Cond.before_iff.mp (hsets _ (List.mem_of_getElem? (i := 15) rfl)))) (Or.inl (hsets _ (List.mem_of_getElem? (i := 14) rfl)))
  have OL : Sta s s.heap "java/lang/StringUTF16" "LO_BYTE_SHIFT" "I" (.int 8) := Sta.start (own_steq (Cond.before_iff.mp (hsets _ (List.mem_of_getElem? (i := 18) rfl)))) (Or.inl (hsets _ (List.mem_of_getElem? (i := 17) rfl)))
  obtain ⟨n, o, h1, h2, h3, _, L, rfl, ⟨rfl, N, -⟩, hq⟩ := law0 (l := l) (Z := s) hw (h0 := s.heap) (n0 := s.heap.size) i0 i1 i2 i3 G1 G3 O2 P5 OA OH OL (Old.start s) O4 rG3 (hcalls.1 ("java/lang/String", 7) (List.mem_cons_self ..)) (hsets _ (List.mem_of_getElem? (i := 2) rfl)) (Nat.le_refl _) tables_1 p e ha hc hk s m _ below hf ((Spec.applies_iff_loose hf).mp happ).1 ⟨rfl, State.Warmed39.refl s, rfl, rfl⟩ trivial
  exact ⟨n, _, h1, h2, h3, hpost _ _ _ _ _ _ ⟨Cond.after_iff.mpr rfl, Cond.after_iff.mpr (eq_i res_at (Term.int_eval (1)) rfl), trivial⟩ ⟨hq.1, hq.2.1, hq.2.2.1, (hq.2.2.2.sift fun y hy => Or.inr (N y hy)).mono (by decide) (by decide)⟩⟩
theorem main_1_1 : Claimed_1_1 := comes_1 fun _ _ _ _ _ _ h hF => ⟨h.1, hF⟩
theorem main_1_2 : Claimed_1_2 := comes_1 fun _ _ _ _ _ _ h hF => ⟨h.2.1, hF⟩
end Jvm.Pilot.@@N@@
namespace Jvm.Pilot.@@N@@
open Jvm Jvm.ClassFile Sem Op Lib Jvm.Free Jvm.Stand Jvm.Pilot.@@N@@.Jvm.D
/-! MADE BY PROGRAM (witnessworld.py) out of the Statement's table words and the real class files: 20 classes; the members and pool entries that the words name. The judged class is class 1, her method 1. -/
namespace start1
open Jvm.ClassFile
def u (s : String) : CpInfo := .utf8 (stringToUtf16 s)
/-- a pool by its gaps: so many unusable entries, then the entry; so many at the end -/
def gap : Nat → List CpInfo → List CpInfo
  | 0, r => r
  | n + 1, r => .unusable :: gap n r
def poolList (es : List (Nat × CpInfo)) (last : Nat) : List CpInfo := es.foldr (fun e r => gap e.1 (e.2 :: r)) (gap last [])
def pool (es : List (Nat × CpInfo)) (last : Nat) : Array CpInfo := ⟨poolList es last⟩
def fileOf (pool : Array CpInfo) (this : Nat) (attrs : Array Attribute := #[]) (ms : Array MethodInfo := #[]) (fl : Nat := 33) (sup : Nat := 0) (ifs : Array Nat := #[]) (fds : Array FieldInfo := #[]) : ClassFile where
  minorVersion := 0
  majorVersion := 65
  constantPool := pool
  accessFlags := fl
  thisClass := this
  superClass := sup
  interfaces := ifs
  fields := fds
  methods := ms
  attributes := attrs
def plain (name : String) (sup : Option ClassId) : Class where
  name := name
  kind := .ordinary
  loader := none
  accessFlags := 33
  super := sup
  interfaces := #[]
  cf := none
  fields := #[]
  methods := #[]
  instanceTypes := #[]
  staticTypes := #[]
  resolved := #[]
  callSites := []
  init := .initialized
  statics := none
  mirror := none

def pool0 : Array CpInfo := pool [(5, u "<init>"), (0, u "()V"), (1, .class_ 10), (1, u "java/lang/Object")] 113

def k0c0 : Code := { maxStack := 0, maxLocals := 1, code := object_method_1_code, exceptionTable := #[], attributes := #[] }
def k0m0 : Method := { name := "<init>", desc := "()V", sig := { parameters := [], returnType := none }, accessFlags := 1, code := some k0c0 }
/-- java/lang/Object -/
def k0 : Class := { plain "java/lang/Object" none with
  accessFlags := 33
  interfaces := #[]
  cf := some (fileOf pool0 8 #[] #[{ accessFlags := 1, nameIndex := 5, descriptorIndex := 6, attributes := #[] }] 33 0 #[] #[])
  fields := #[]
  methods := #[k0m0]
  instanceTypes := #[]
  staticTypes := #[]
  resolved := Array.replicate 124 none
  statics := none }

def pool1 : Array CpInfo := pool [(2, .class_ 4), (1, u "java/lang/Object"), (0, u "<init>"), (0, u "()V"), (0, .methodref 8 9), (0, .class_ 10), (0, .nameAndType 11 12), (0, u "com/example/longhaul/longhaul/IsoMessageIsTypePinLaw"), (0, u "draw"), (0, u "(III)C"), (0, .methodref 8 14), (0, .nameAndType 15 16), (0, u "text"), (0, u "(ICCCCCC)Ljava/lang/String;"), (0, .methodref 8 18), (0, .nameAndType 19 20), (0, u "digit"), (0, u "(C)Z"), (0, .methodref 22 23), (0, .class_ 24), (0, .nameAndType 25 26), (0, u "com/example/longhaul/longhaul/IsoMessage"), (0, u "isType"), (0, u "(Ljava/lang/CharSequence;)Z"), (0, .integer 65535), (0, .class_ 29), (0, u "java/lang/String"), (0, .methodref 28 31), (0, .nameAndType 5 32), (0, u "([C)V"), (2, u "law"), (0, u "(IIII)Z")] 3

def k1m0 : Method := { name := "<init>", desc := "()V", sig := { parameters := [], returnType := none }, accessFlags := 1, code := none }
def k1c1 : Code := { maxStack := 7, maxLocals := 13, code := code, exceptionTable := #[], attributes := #[] }
def k1m1 : Method := { name := "law", desc := "(IIII)Z", sig := { parameters := [.int, .int, .int, .int], returnType := some .boolean }, accessFlags := 9, code := some k1c1 }
def k1c2 : Code := { maxStack := 2, maxLocals := 1, code := method_3_code, exceptionTable := #[], attributes := #[] }
def k1m2 : Method := { name := "digit", desc := "(C)Z", sig := { parameters := [.char], returnType := some .boolean }, accessFlags := 10, code := some k1c2 }
def k1c3 : Code := { maxStack := 3, maxLocals := 4, code := method_4_code, exceptionTable := #[], attributes := #[] }
def k1m3 : Method := { name := "draw", desc := "(III)C", sig := { parameters := [.int, .int, .int], returnType := some .char }, accessFlags := 10, code := some k1c3 }
def k1c4 : Code := { maxStack := 6, maxLocals := 7, code := method_5_code, exceptionTable := #[], attributes := #[] }
def k1m4 : Method := { name := "text", desc := "(ICCCCCC)Ljava/lang/String;", sig := { parameters := [.int, .char, .char, .char, .char, .char, .char], returnType := some (.object "java/lang/String") }, accessFlags := 10, code := some k1c4 }
/-- com/example/longhaul/longhaul/IsoMessageIsTypePinLaw -/
def k1 : Class := { plain "com/example/longhaul/longhaul/IsoMessageIsTypePinLaw" (some 0) with
  accessFlags := 49
  interfaces := #[]
  cf := some (fileOf pool1 8 #[] #[{ accessFlags := 1, nameIndex := 5, descriptorIndex := 6, attributes := #[] }, { accessFlags := 9, nameIndex := 35, descriptorIndex := 36, attributes := #[] }, { accessFlags := 10, nameIndex := 19, descriptorIndex := 20, attributes := #[] }, { accessFlags := 10, nameIndex := 11, descriptorIndex := 12, attributes := #[] }, { accessFlags := 10, nameIndex := 15, descriptorIndex := 16, attributes := #[] }] 49 2 #[] #[])
  fields := #[]
  methods := #[k1m0, k1m1, k1m2, k1m3, k1m4]
  instanceTypes := #[]
  staticTypes := #[]
  resolved := Array.replicate 40 none
  statics := none }

def pool2 : Array CpInfo := pool [(1, .class_ 2), (0, u "java/io/Serializable"), (0, .class_ 4), (0, u "java/lang/Object")] 2

/-- java/io/Serializable -/
def k2 : Class := { plain "java/io/Serializable" (some 0) with
  accessFlags := 1537
  interfaces := #[]
  cf := some (fileOf pool2 1 #[] #[] 1537 3 #[] #[])
  fields := #[]
  methods := #[]
  instanceTypes := #[]
  staticTypes := #[]
  resolved := Array.replicate 7 none
  statics := none }

def pool3 : Array CpInfo := pool [(1, .class_ 2), (0, u "java/lang/Comparable"), (0, .class_ 4), (0, u "java/lang/Object")] 7

/-- java/lang/Comparable -/
def k3 : Class := { plain "java/lang/Comparable" (some 0) with
  accessFlags := 1537
  interfaces := #[]
  cf := some (fileOf pool3 1 #[] #[] 1537 3 #[] #[])
  fields := #[]
  methods := #[]
  instanceTypes := #[]
  staticTypes := #[]
  resolved := Array.replicate 12 none
  statics := none }

def pool4 : Array CpInfo := pool [(2, .class_ 4), (1, u "java/lang/CharSequence"), (0, u "length"), (0, u "()I"), (38, u "charAt"), (0, u "(I)C"), (0, .class_ 48), (0, u "java/lang/CharSequence$1CodePointIterator"), (10, .class_ 60), (0, u "java/lang/CharSequence$1CharIterator"), (5, .class_ 67), (0, u "java/lang/Object")] 63

def k4m0 : Method := { name := "length", desc := "()I", sig := { parameters := [], returnType := some .int }, accessFlags := 1025, code := none }
def k4m1 : Method := { name := "charAt", desc := "(I)C", sig := { parameters := [.int], returnType := some .char }, accessFlags := 1025, code := none }
/-- java/lang/CharSequence -/
def k4 : Class := { plain "java/lang/CharSequence" (some 0) with
  accessFlags := 1537
  interfaces := #[]
  cf := some (fileOf pool4 2 #[.nestMembers #[47, 59]] #[{ accessFlags := 1025, nameIndex := 5, descriptorIndex := 6, attributes := #[] }, { accessFlags := 1025, nameIndex := 45, descriptorIndex := 46, attributes := #[] }] 1537 66 #[] #[])
  fields := #[]
  methods := #[k4m0, k4m1]
  instanceTypes := #[]
  staticTypes := #[]
  resolved := Array.replicate 131 none
  statics := none }

def pool5 : Array CpInfo := pool [(1, .class_ 2), (0, u "java/lang/constant/Constable"), (0, .class_ 4), (0, u "java/lang/Object")] 6

/-- java/lang/constant/Constable -/
def k5 : Class := { plain "java/lang/constant/Constable" (some 0) with
  accessFlags := 1537
  interfaces := #[]
  cf := some (fileOf pool5 1 #[] #[] 1537 3 #[] #[])
  fields := #[]
  methods := #[]
  instanceTypes := #[]
  staticTypes := #[]
  resolved := Array.replicate 11 none
  statics := none }

def pool6 : Array CpInfo := pool [(1, .class_ 2), (0, u "java/lang/constant/ConstantDesc"), (0, .class_ 4), (0, u "java/lang/Object")] 32

/-- java/lang/constant/ConstantDesc -/
def k6 : Class := { plain "java/lang/constant/ConstantDesc" (some 0) with
  accessFlags := 1537
  interfaces := #[]
  cf := some (fileOf pool6 1 #[] #[] 1537 3 #[] #[])
  fields := #[]
  methods := #[]
  instanceTypes := #[]
  staticTypes := #[]
  resolved := Array.replicate 37 none
  statics := none }

def pool7 : Array CpInfo := pool [(1, .methodref 2 3), (0, .class_ 4), (0, .nameAndType 5 6), (0, u "java/lang/Object"), (0, u "<init>"), (0, u "()V"), (0, .string 8), (0, u ""), (0, .fieldref 10 11), (0, .class_ 12), (0, .nameAndType 13 14), (0, u "java/lang/String"), (0, u "value"), (0, u "[B"), (0, .fieldref 10 16), (0, .nameAndType 17 18), (0, u "coder"), (0, u "B"), (2, u "hash"), (0, u "I"), (2, u "hashIsZero"), (0, u "Z"), (0, .methodref 10 28), (0, .nameAndType 5 29), (0, u "([CIILjava/lang/Void;)V"), (8, .fieldref 10 39), (0, .nameAndType 40 26), (0, u "COMPACT_STRINGS"), (1, .class_ 44), (1, u "java/lang/StringUTF16"), (0, u "compress"), (1, .methodref 42 48), (0, .nameAndType 49 50), (0, u "coderFromArrayLen"), (0, u "([BI)B"), (56, .class_ 109), (1, u "java/lang/StringLatin1"), (32, u "()Z"), (34, .methodref 42 178), (0, .nameAndType 45 179), (0, u "([CII)[B"), (154, u "()I"), (0, .methodref 10 336), (0, .nameAndType 17 337), (0, u "()B"), (25, u "([BI)C"), (27, u "(II)V"), (35, u "(I)C"), (64, .methodref 10 493), (0, .nameAndType 494 142), (0, u "isLatin1"), (0, .methodref 107 496), (0, .nameAndType 497 363), (0, u "charAt"), (0, .methodref 42 496), (2, u "checkIndex"), (5, u "length"), (67, .class_ 576), (0, u "java/lang/CharSequence"), (22, u "CASE_INSENSITIVE_ORDER"), (0, u "Ljava/util/Comparator;"), (409, u "([C)V"), (42, .fieldref 1054 1055), (0, .class_ 1056), (0, .nameAndType 1057 1058), (0, u "jdk/internal/util/Preconditions"), (0, u "SIOOBE_FORMATTER"), (0, u "Ljava/util/function/BiFunction;"), (0, .methodref 1054 1060), (0, .nameAndType 501 1061), (0, u "(IILjava/util/function/BiFunction;)I"), (39, u "serialPersistentFields"), (0, u "[Ljava/io/ObjectStreamField;"), (0, .class_ 1104), (0, u "java/lang/String$CaseInsensitiveComparator"), (1, .class_ 1107), (0, u "java/io/Serializable"), (0, .class_ 1109), (0, u "java/lang/Comparable"), (0, .class_ 1111), (0, u "java/lang/constant/Constable"), (0, .class_ 1113), (0, u "java/lang/constant/ConstantDesc"), (2, u "serialVersionUID"), (0, u "J"), (3, u "REPL"), (0, u "C"), (2, u "LATIN1"), (1, u "UTF16")] 323

def k7m0 : Method := { name := "<init>", desc := "()V", sig := { parameters := [], returnType := none }, accessFlags := 1, code := none }
def k7c1 : Code := { maxStack := 5, maxLocals := 2, code := jdk_42_method_3_code, exceptionTable := #[], attributes := #[] }
def k7m1 : Method := { name := "<init>", desc := "([C)V", sig := { parameters := [(.array .char)], returnType := none }, accessFlags := 1, code := some k7c1 }
def k7c2 : Code := { maxStack := 2, maxLocals := 1, code := jdk_42_method_54_code, exceptionTable := #[], attributes := #[] }
def k7m2 : Method := { name := "length", desc := "()I", sig := { parameters := [], returnType := some .int }, accessFlags := 1, code := some k7c2 }
def k7c3 : Code := { maxStack := 2, maxLocals := 2, code := jdk_42_method_56_code, exceptionTable := #[], attributes := #[] }
def k7m3 : Method := { name := "charAt", desc := "(I)C", sig := { parameters := [.int], returnType := some .char }, accessFlags := 1, code := some k7c3 }
def k7c4 : Code := { maxStack := 4, maxLocals := 6, code := jdk_42_method_149_code, exceptionTable := #[], attributes := #[] }
def k7m4 : Method := { name := "<init>", desc := "([CIILjava/lang/Void;)V", sig := { parameters := [(.array .char), .int, .int, (.object "java/lang/Void")], returnType := none }, accessFlags := 2, code := some k7c4 }
def k7c5 : Code := { maxStack := 1, maxLocals := 1, code := jdk_42_method_152_code, exceptionTable := #[], attributes := #[] }
def k7m5 : Method := { name := "coder", desc := "()B", sig := { parameters := [], returnType := some .byte }, accessFlags := 0, code := some k7c5 }
def k7c6 : Code := { maxStack := 1, maxLocals := 1, code := jdk_42_method_154_code, exceptionTable := #[], attributes := #[] }
def k7m6 : Method := { name := "isLatin1", desc := "()Z", sig := { parameters := [], returnType := some .boolean }, accessFlags := 0, code := some k7c6 }
def k7c7 : Code := { maxStack := 3, maxLocals := 2, code := jdk_42_method_155_code, exceptionTable := #[], attributes := #[] }
def k7m7 : Method := { name := "checkIndex", desc := "(II)V", sig := { parameters := [.int, .int], returnType := none }, accessFlags := 8, code := some k7c7 }
/-- java/lang/String -/
def k7 : Class := { plain "java/lang/String" (some 0) with
  accessFlags := 49
  interfaces := #[2, 3, 4, 5, 6]
  cf := some (fileOf pool7 10 #[.nestMembers #[1103]] #[{ accessFlags := 1, nameIndex := 5, descriptorIndex := 6, attributes := #[] }, { accessFlags := 1, nameIndex := 5, descriptorIndex := 1010, attributes := #[] }, { accessFlags := 1, nameIndex := 507, descriptorIndex := 334, attributes := #[] }, { accessFlags := 1, nameIndex := 497, descriptorIndex := 427, attributes := #[] }, { accessFlags := 2, nameIndex := 5, descriptorIndex := 29, attributes := #[] }, { accessFlags := 0, nameIndex := 17, descriptorIndex := 337, attributes := #[] }, { accessFlags := 0, nameIndex := 494, descriptorIndex := 142, attributes := #[] }, { accessFlags := 8, nameIndex := 501, descriptorIndex := 391, attributes := #[] }] 49 2 #[1106, 1108, 575, 1110, 1112] #[{ accessFlags := 18, nameIndex := 13, descriptorIndex := 14, attributes := #[] }, { accessFlags := 18, nameIndex := 17, descriptorIndex := 18, attributes := #[] }, { accessFlags := 2, nameIndex := 21, descriptorIndex := 22, attributes := #[] }, { accessFlags := 2, nameIndex := 25, descriptorIndex := 26, attributes := #[] }, { accessFlags := 26, nameIndex := 1116, descriptorIndex := 1117, attributes := #[] }, { accessFlags := 24, nameIndex := 40, descriptorIndex := 26, attributes := #[] }, { accessFlags := 26, nameIndex := 1101, descriptorIndex := 1102, attributes := #[] }, { accessFlags := 26, nameIndex := 1121, descriptorIndex := 1122, attributes := #[] }, { accessFlags := 25, nameIndex := 599, descriptorIndex := 600, attributes := #[] }, { accessFlags := 24, nameIndex := 1125, descriptorIndex := 18, attributes := #[] }, { accessFlags := 24, nameIndex := 1127, descriptorIndex := 18, attributes := #[] }])
  fields := #[{ name := "value", type := (.array .byte), accessFlags := 18, slot := 0, constantValue := 0 }, { name := "coder", type := .byte, accessFlags := 18, slot := 1, constantValue := 0 }, { name := "hash", type := .int, accessFlags := 2, slot := 2, constantValue := 0 }, { name := "hashIsZero", type := .boolean, accessFlags := 2, slot := 3, constantValue := 0 }, { name := "serialVersionUID", type := .long, accessFlags := 26, slot := 0, constantValue := 0 }, { name := "COMPACT_STRINGS", type := .boolean, accessFlags := 24, slot := 1, constantValue := 0 }, { name := "serialPersistentFields", type := (.array (.object "java/io/ObjectStreamField")), accessFlags := 26, slot := 2, constantValue := 0 }, { name := "REPL", type := .char, accessFlags := 26, slot := 3, constantValue := 0 }, { name := "CASE_INSENSITIVE_ORDER", type := (.object "java/util/Comparator"), accessFlags := 25, slot := 4, constantValue := 0 }, { name := "LATIN1", type := .byte, accessFlags := 24, slot := 5, constantValue := 0 }, { name := "UTF16", type := .byte, accessFlags := 24, slot := 6, constantValue := 0 }]
  methods := #[k7m0, k7m1, k7m2, k7m3, k7m4, k7m5, k7m6, k7m7]
  instanceTypes := #[(.array .byte), .byte, .int, .boolean]
  staticTypes := #[.long, .boolean, (.array (.object "java/io/ObjectStreamField")), .char, (.object "java/util/Comparator"), .byte, .byte]
  resolved := Array.replicate 1451 none
  statics := some 0 }

def pool8 : Array CpInfo := pool [(2, .class_ 4), (1, u "java/lang/Object"), (3, .class_ 10), (1, u "com/example/longhaul/longhaul/IsoMessage"), (0, u "type"), (0, u "Ljava/lang/String;"), (2, u "numbers"), (0, u "[I"), (2, u "values"), (0, u "[Ljava/lang/String;"), (9, u "isType"), (0, u "(Ljava/lang/CharSequence;)Z"), (9, .class_ 42), (0, u "com/example/longhaul/longhaul/IsoMessage$FieldMap"), (12, u "()I"), (73, .interfaceMethodref 130 131), (0, .class_ 132), (0, .nameAndType 133 55), (0, u "java/lang/CharSequence"), (0, u "length"), (0, .interfaceMethodref 130 135), (0, .nameAndType 136 137), (0, u "charAt"), (0, u "(I)C"), (33, u "FIRST_FIELD"), (0, u "I"), (2, u "LAST_FIELD"), (25, .class_ 202), (0, u "com/example/longhaul/longhaul/IsoMessage$FieldMap$1"), (0, .class_ 204), (0, u "com/example/longhaul/longhaul/IsoMessage$FieldMap$1$1")] 35

def k8c0 : Code := { maxStack := 2, maxLocals := 3, code := prog_16_method_11_code, exceptionTable := #[], attributes := #[] }
def k8m0 : Method := { name := "isType", desc := "(Ljava/lang/CharSequence;)Z", sig := { parameters := [(.object "java/lang/CharSequence")], returnType := some .boolean }, accessFlags := 8, code := some k8c0 }
/-- com/example/longhaul/longhaul/IsoMessage -/
def k8 : Class := { plain "com/example/longhaul/longhaul/IsoMessage" (some 0) with
  accessFlags := 49
  interfaces := #[]
  cf := some (fileOf pool8 8 #[.nestMembers #[41, 201, 203]] #[{ accessFlags := 8, nameIndex := 30, descriptorIndex := 31, attributes := #[] }] 49 2 #[] #[{ accessFlags := 25, nameIndex := 171, descriptorIndex := 172, attributes := #[] }, { accessFlags := 25, nameIndex := 175, descriptorIndex := 172, attributes := #[] }, { accessFlags := 18, nameIndex := 11, descriptorIndex := 12, attributes := #[] }, { accessFlags := 18, nameIndex := 15, descriptorIndex := 16, attributes := #[] }, { accessFlags := 18, nameIndex := 19, descriptorIndex := 20, attributes := #[] }])
  fields := #[{ name := "FIRST_FIELD", type := .int, accessFlags := 25, slot := 0, constantValue := 0 }, { name := "LAST_FIELD", type := .int, accessFlags := 25, slot := 1, constantValue := 0 }, { name := "type", type := (.object "java/lang/String"), accessFlags := 18, slot := 0, constantValue := 0 }, { name := "numbers", type := (.array .int), accessFlags := 18, slot := 1, constantValue := 0 }, { name := "values", type := (.array (.object "java/lang/String")), accessFlags := 18, slot := 2, constantValue := 0 }]
  methods := #[k8m0]
  instanceTypes := #[(.object "java/lang/String"), (.array .int), (.array (.object "java/lang/String"))]
  staticTypes := #[.int, .int]
  resolved := Array.replicate 240 none
  statics := none }

def pool9 : Array CpInfo := pool [(3, .class_ 4), (0, u "java/lang/String"), (1, .class_ 8), (1, u "java/lang/Object"), (0, u "<init>"), (0, u "()V"), (0, .methodref 12 13), (0, .class_ 14), (0, .nameAndType 15 16), (0, u "java/lang/StringUTF16"), (0, u "newBytesLength"), (0, u "(I)I"), (3, .integer 1073741823), (23, .fieldref 12 45), (0, .nameAndType 46 47), (0, u "$assertionsDisabled"), (0, u "Z"), (0, .methodref 12 49), (0, .nameAndType 50 51), (0, u "length"), (0, u "([B)I"), (7, .fieldref 12 60), (0, .nameAndType 61 62), (0, u "HI_BYTE_SHIFT"), (0, u "I"), (0, .fieldref 12 64), (0, .nameAndType 65 62), (0, u "LO_BYTE_SHIFT"), (1, .methodref 12 68), (0, .nameAndType 69 70), (0, u "checkIndex"), (0, u "(I[B)V"), (0, .methodref 12 72), (0, .nameAndType 73 74), (0, u "getChar"), (0, u "([BI)C"), (32, .methodref 12 108), (0, .nameAndType 109 110), (0, u "newBytesFor"), (0, u "(I)[B"), (0, .methodref 12 112), (0, .nameAndType 113 114), (0, u "putChar"), (0, u "([BII)V"), (0, .methodref 12 116), (0, .nameAndType 117 118), (0, u "compress"), (0, u "([CI[BII)I"), (0, .methodref 12 120), (0, .nameAndType 121 122), (0, u "toBytes"), (0, u "([CII)[B"), (138, u "coderFromArrayLen"), (0, u "([BI)B"), (106, .class_ 371), (1, u "java/lang/StringUTF16$LinesSpliterator"), (20, u "charAt"), (21, .methodref 3 415), (0, .nameAndType 69 416), (0, u "(II)V"), (13, u "MAX_LENGTH"), (196, .class_ 628), (0, u "java/lang/StringUTF16$CodePointsSpliterator"), (0, .class_ 630), (0, u "java/lang/StringUTF16$CharsSpliterator")] 4

def k9m0 : Method := { name := "<init>", desc := "()V", sig := { parameters := [], returnType := none }, accessFlags := 0, code := none }
def k9c1 : Code := { maxStack := 1, maxLocals := 1, code := jdk_52_method_2_code, exceptionTable := #[], attributes := #[] }
def k9m1 : Method := { name := "newBytesFor", desc := "(I)[B", sig := { parameters := [.int], returnType := some (.array .byte) }, accessFlags := 9, code := some k9c1 }
def k9c2 : Code := { maxStack := 4, maxLocals := 1, code := jdk_52_method_3_code, exceptionTable := #[], attributes := #[] }
def k9m2 : Method := { name := "newBytesLength", desc := "(I)I", sig := { parameters := [.int], returnType := some .int }, accessFlags := 9, code := some k9c2 }
def k9c3 : Code := { maxStack := 4, maxLocals := 3, code := jdk_52_method_4_code, exceptionTable := #[], attributes := #[] }
def k9m3 : Method := { name := "putChar", desc := "([BII)V", sig := { parameters := [(.array .byte), .int, .int], returnType := none }, accessFlags := 8, code := some k9c3 }
def k9c4 : Code := { maxStack := 3, maxLocals := 2, code := jdk_52_method_5_code, exceptionTable := #[], attributes := #[] }
def k9m4 : Method := { name := "getChar", desc := "([BI)C", sig := { parameters := [(.array .byte), .int], returnType := some .char }, accessFlags := 8, code := some k9c4 }
def k9c5 : Code := { maxStack := 2, maxLocals := 1, code := jdk_52_method_6_code, exceptionTable := #[], attributes := #[] }
def k9m5 : Method := { name := "length", desc := "([B)I", sig := { parameters := [(.array .byte)], returnType := some .int }, accessFlags := 9, code := some k9c5 }
def k9c6 : Code := { maxStack := 4, maxLocals := 5, code := jdk_52_method_14_code, exceptionTable := #[], attributes := #[] }
def k9m6 : Method := { name := "toBytes", desc := "([CII)[B", sig := { parameters := [(.array .char), .int, .int], returnType := some (.array .byte) }, accessFlags := 9, code := some k9c6 }
def k9c7 : Code := { maxStack := 2, maxLocals := 2, code := jdk_52_method_15_code, exceptionTable := #[], attributes := #[] }
def k9m7 : Method := { name := "coderFromArrayLen", desc := "([BI)B", sig := { parameters := [(.array .byte), .int], returnType := some .byte }, accessFlags := 8, code := some k9c7 }
def k9c8 : Code := { maxStack := 5, maxLocals := 6, code := jdk_52_method_16_code, exceptionTable := #[], attributes := #[] }
def k9m8 : Method := { name := "compress", desc := "([CII)[B", sig := { parameters := [(.array .char), .int, .int], returnType := some (.array .byte) }, accessFlags := 9, code := some k9c8 }
def k9c9 : Code := { maxStack := 3, maxLocals := 7, code := jdk_52_method_21_code, exceptionTable := #[], attributes := #[] }
def k9m9 : Method := { name := "compress", desc := "([CI[BII)I", sig := { parameters := [(.array .char), .int, (.array .byte), .int, .int], returnType := some .int }, accessFlags := 9, code := some k9c9 }
def k9c10 : Code := { maxStack := 2, maxLocals := 2, code := jdk_52_method_83_code, exceptionTable := #[], attributes := #[] }
def k9m10 : Method := { name := "charAt", desc := "([BI)C", sig := { parameters := [(.array .byte), .int], returnType := some .char }, accessFlags := 9, code := some k9c10 }
def k9c11 : Code := { maxStack := 2, maxLocals := 2, code := jdk_52_method_91_code, exceptionTable := #[], attributes := #[] }
def k9m11 : Method := { name := "checkIndex", desc := "(I[B)V", sig := { parameters := [.int, (.array .byte)], returnType := none }, accessFlags := 9, code := some k9c11 }
/-- java/lang/StringUTF16 -/
def k9 : Class := { plain "java/lang/StringUTF16" (some 0) with
  accessFlags := 48
  interfaces := #[]
  cf := some (fileOf pool9 12 #[.nestMembers #[627, 629, 369]] #[{ accessFlags := 0, nameIndex := 9, descriptorIndex := 10, attributes := #[] }, { accessFlags := 9, nameIndex := 109, descriptorIndex := 110, attributes := #[] }, { accessFlags := 9, nameIndex := 15, descriptorIndex := 16, attributes := #[] }, { accessFlags := 8, nameIndex := 113, descriptorIndex := 114, attributes := #[] }, { accessFlags := 8, nameIndex := 73, descriptorIndex := 74, attributes := #[] }, { accessFlags := 9, nameIndex := 50, descriptorIndex := 51, attributes := #[] }, { accessFlags := 9, nameIndex := 121, descriptorIndex := 122, attributes := #[] }, { accessFlags := 8, nameIndex := 261, descriptorIndex := 262, attributes := #[] }, { accessFlags := 9, nameIndex := 117, descriptorIndex := 122, attributes := #[] }, { accessFlags := 9, nameIndex := 117, descriptorIndex := 118, attributes := #[] }, { accessFlags := 9, nameIndex := 392, descriptorIndex := 74, attributes := #[] }, { accessFlags := 9, nameIndex := 69, descriptorIndex := 70, attributes := #[] }] 48 6 #[] #[{ accessFlags := 26, nameIndex := 61, descriptorIndex := 62, attributes := #[] }, { accessFlags := 26, nameIndex := 65, descriptorIndex := 62, attributes := #[] }, { accessFlags := 24, nameIndex := 430, descriptorIndex := 62, attributes := #[] }, { accessFlags := 4120, nameIndex := 46, descriptorIndex := 47, attributes := #[] }])
  fields := #[{ name := "HI_BYTE_SHIFT", type := .int, accessFlags := 26, slot := 0, constantValue := 0 }, { name := "LO_BYTE_SHIFT", type := .int, accessFlags := 26, slot := 1, constantValue := 0 }, { name := "MAX_LENGTH", type := .int, accessFlags := 24, slot := 2, constantValue := 0 }, { name := "$assertionsDisabled", type := .boolean, accessFlags := 4120, slot := 3, constantValue := 0 }]
  methods := #[k9m0, k9m1, k9m2, k9m3, k9m4, k9m5, k9m6, k9m7, k9m8, k9m9, k9m10, k9m11]
  instanceTypes := #[]
  staticTypes := #[.int, .int, .int, .boolean]
  resolved := Array.replicate 635 none
  statics := some 1 }

def pool10 : Array CpInfo := pool [(2, .class_ 4), (1, u "java/lang/Object"), (0, u "<init>"), (0, u "()V"), (17, .class_ 26), (1, u "jdk/internal/util/Preconditions"), (6, u "checkIndex"), (21, .class_ 56), (0, u "jdk/internal/util/Preconditions$4"), (57, .class_ 115), (0, u "jdk/internal/util/Preconditions$1"), (7, u "SIOOBE_FORMATTER"), (0, u "Ljava/util/function/BiFunction;"), (0, .class_ 126), (0, u "jdk/internal/util/Preconditions$2"), (3, u "AIOOBE_FORMATTER"), (0, .class_ 132), (0, u "jdk/internal/util/Preconditions$3"), (3, u "IOOBE_FORMATTER"), (41, u "(IILjava/util/function/BiFunction;)I")] 15

def k10m0 : Method := { name := "<init>", desc := "()V", sig := { parameters := [], returnType := none }, accessFlags := 1, code := none }
def k10c1 : Code := { maxStack := 3, maxLocals := 3, code := jdk_41_method_11_code, exceptionTable := #[], attributes := #[] }
def k10m1 : Method := { name := "checkIndex", desc := "(IILjava/util/function/BiFunction;)I", sig := { parameters := [.int, .int, (.object "java/util/function/BiFunction")], returnType := some .int }, accessFlags := 9, code := some k10c1 }
/-- jdk/internal/util/Preconditions -/
def k10 : Class := { plain "jdk/internal/util/Preconditions" (some 0) with
  accessFlags := 33
  interfaces := #[]
  cf := some (fileOf pool10 24 #[.nestMembers #[55, 131, 125, 114]] #[{ accessFlags := 1, nameIndex := 5, descriptorIndex := 6, attributes := #[] }, { accessFlags := 9, nameIndex := 33, descriptorIndex := 178, attributes := #[] }] 33 2 #[] #[{ accessFlags := 25, nameIndex := 123, descriptorIndex := 124, attributes := #[] }, { accessFlags := 25, nameIndex := 130, descriptorIndex := 124, attributes := #[] }, { accessFlags := 25, nameIndex := 136, descriptorIndex := 124, attributes := #[] }])
  fields := #[{ name := "SIOOBE_FORMATTER", type := (.object "java/util/function/BiFunction"), accessFlags := 25, slot := 0, constantValue := 0 }, { name := "AIOOBE_FORMATTER", type := (.object "java/util/function/BiFunction"), accessFlags := 25, slot := 1, constantValue := 0 }, { name := "IOOBE_FORMATTER", type := (.object "java/util/function/BiFunction"), accessFlags := 25, slot := 2, constantValue := 0 }]
  methods := #[k10m0, k10m1]
  instanceTypes := #[]
  staticTypes := #[(.object "java/util/function/BiFunction"), (.object "java/util/function/BiFunction"), (.object "java/util/function/BiFunction")]
  resolved := Array.replicate 194 none
  statics := some 2 }

def pool11 : Array CpInfo := pool [(1, .class_ 2), (0, u "java/lang/String"), (1, .class_ 6), (1, u "java/lang/Object"), (0, u "<init>"), (0, u "()V"), (0, .methodref 1 10), (0, .nameAndType 11 12), (0, u "checkIndex"), (0, u "(II)V"), (1, .class_ 16), (1, u "java/lang/StringLatin1"), (36, u "([BI)C"), (67, u "$assertionsDisabled"), (0, u "Z"), (98, .class_ 223), (1, u "java/lang/StringLatin1$LinesSpliterator"), (28, u "charAt"), (137, .class_ 391), (0, u "java/lang/StringLatin1$CharsSpliterator")] 3

def k11m0 : Method := { name := "<init>", desc := "()V", sig := { parameters := [], returnType := none }, accessFlags := 0, code := none }
def k11c1 : Code := { maxStack := 2, maxLocals := 2, code := jdk_43_method_2_code, exceptionTable := #[], attributes := #[] }
def k11m1 : Method := { name := "charAt", desc := "([BI)C", sig := { parameters := [(.array .byte), .int], returnType := some .char }, accessFlags := 9, code := some k11c1 }
/-- java/lang/StringLatin1 -/
def k11 : Class := { plain "java/lang/StringLatin1" (some 0) with
  accessFlags := 48
  interfaces := #[]
  cf := some (fileOf pool11 14 #[.nestMembers #[390, 221]] #[{ accessFlags := 0, nameIndex := 7, descriptorIndex := 8, attributes := #[] }, { accessFlags := 9, nameIndex := 252, descriptorIndex := 53, attributes := #[] }] 48 4 #[] #[{ accessFlags := 4120, nameIndex := 121, descriptorIndex := 122, attributes := #[] }])
  fields := #[{ name := "$assertionsDisabled", type := .boolean, accessFlags := 4120, slot := 0, constantValue := 0 }]
  methods := #[k11m0, k11m1]
  instanceTypes := #[]
  staticTypes := #[.boolean]
  resolved := Array.replicate 395 none
  statics := none }

def pool12 : Array CpInfo := pool [(9, u "<init>"), (6, .class_ 18), (1, u "java/lang/Object"), (0, u "()V"), (1, .class_ 23), (1, u "jdk/internal/util/ArraysSupport"), (0, u "LOG2_ARRAY_LONG_INDEX_SCALE"), (0, u "I"), (2, u "U"), (0, u "Ljdk/internal/misc/Unsafe;"), (8, u "BIG_ENDIAN"), (0, u "Z"), (8, u "LOG2_BYTE_BIT_SIZE"), (4, u "LOG2_ARRAY_INT_INDEX_SCALE"), (54, u "JLA"), (0, u "Ljdk/internal/access/JavaLangAccess;"), (11, u "LOG2_ARRAY_BOOLEAN_INDEX_SCALE"), (9, u "LOG2_ARRAY_BYTE_INDEX_SCALE"), (5, u "LOG2_ARRAY_CHAR_INDEX_SCALE"), (5, u "LOG2_ARRAY_SHORT_INDEX_SCALE"), (18, u "LOG2_ARRAY_FLOAT_INDEX_SCALE"), (24, u "LOG2_ARRAY_DOUBLE_INDEX_SCALE"), (89, u "T_BOOLEAN"), (2, u "T_CHAR"), (1, u "T_FLOAT"), (1, u "T_DOUBLE"), (1, u "T_BYTE"), (1, u "T_SHORT"), (1, u "T_INT"), (1, u "T_LONG"), (1, u "SOFT_MAX_ARRAY_LENGTH")] 83

def k12m0 : Method := { name := "<init>", desc := "()V", sig := { parameters := [], returnType := none }, accessFlags := 2, code := none }
/-- jdk/internal/util/ArraysSupport -/
def k12 : Class := { plain "jdk/internal/util/ArraysSupport" (some 0) with
  accessFlags := 33
  interfaces := #[]
  cf := some (fileOf pool12 21 #[] #[{ accessFlags := 2, nameIndex := 9, descriptorIndex := 19, attributes := #[] }] 33 16 #[] #[{ accessFlags := 24, nameIndex := 28, descriptorIndex := 29, attributes := #[] }, { accessFlags := 26, nameIndex := 38, descriptorIndex := 39, attributes := #[] }, { accessFlags := 25, nameIndex := 121, descriptorIndex := 25, attributes := #[] }, { accessFlags := 25, nameIndex := 131, descriptorIndex := 25, attributes := #[] }, { accessFlags := 25, nameIndex := 137, descriptorIndex := 25, attributes := #[] }, { accessFlags := 25, nameIndex := 143, descriptorIndex := 25, attributes := #[] }, { accessFlags := 25, nameIndex := 53, descriptorIndex := 25, attributes := #[] }, { accessFlags := 25, nameIndex := 24, descriptorIndex := 25, attributes := #[] }, { accessFlags := 25, nameIndex := 162, descriptorIndex := 25, attributes := #[] }, { accessFlags := 25, nameIndex := 187, descriptorIndex := 25, attributes := #[] }, { accessFlags := 26, nameIndex := 48, descriptorIndex := 25, attributes := #[] }, { accessFlags := 25, nameIndex := 277, descriptorIndex := 25, attributes := #[] }, { accessFlags := 25, nameIndex := 280, descriptorIndex := 25, attributes := #[] }, { accessFlags := 25, nameIndex := 282, descriptorIndex := 25, attributes := #[] }, { accessFlags := 25, nameIndex := 284, descriptorIndex := 25, attributes := #[] }, { accessFlags := 25, nameIndex := 286, descriptorIndex := 25, attributes := #[] }, { accessFlags := 25, nameIndex := 288, descriptorIndex := 25, attributes := #[] }, { accessFlags := 25, nameIndex := 290, descriptorIndex := 25, attributes := #[] }, { accessFlags := 25, nameIndex := 292, descriptorIndex := 25, attributes := #[] }, { accessFlags := 26, nameIndex := 108, descriptorIndex := 109, attributes := #[] }, { accessFlags := 25, nameIndex := 294, descriptorIndex := 25, attributes := #[] }])
  fields := #[{ name := "U", type := (.object "jdk/internal/misc/Unsafe"), accessFlags := 24, slot := 0, constantValue := 0 }, { name := "BIG_ENDIAN", type := .boolean, accessFlags := 26, slot := 1, constantValue := 0 }, { name := "LOG2_ARRAY_BOOLEAN_INDEX_SCALE", type := .int, accessFlags := 25, slot := 2, constantValue := 0 }, { name := "LOG2_ARRAY_BYTE_INDEX_SCALE", type := .int, accessFlags := 25, slot := 3, constantValue := 0 }, { name := "LOG2_ARRAY_CHAR_INDEX_SCALE", type := .int, accessFlags := 25, slot := 4, constantValue := 0 }, { name := "LOG2_ARRAY_SHORT_INDEX_SCALE", type := .int, accessFlags := 25, slot := 5, constantValue := 0 }, { name := "LOG2_ARRAY_INT_INDEX_SCALE", type := .int, accessFlags := 25, slot := 6, constantValue := 0 }, { name := "LOG2_ARRAY_LONG_INDEX_SCALE", type := .int, accessFlags := 25, slot := 7, constantValue := 0 }, { name := "LOG2_ARRAY_FLOAT_INDEX_SCALE", type := .int, accessFlags := 25, slot := 8, constantValue := 0 }, { name := "LOG2_ARRAY_DOUBLE_INDEX_SCALE", type := .int, accessFlags := 25, slot := 9, constantValue := 0 }, { name := "LOG2_BYTE_BIT_SIZE", type := .int, accessFlags := 26, slot := 10, constantValue := 0 }, { name := "T_BOOLEAN", type := .int, accessFlags := 25, slot := 11, constantValue := 0 }, { name := "T_CHAR", type := .int, accessFlags := 25, slot := 12, constantValue := 0 }, { name := "T_FLOAT", type := .int, accessFlags := 25, slot := 13, constantValue := 0 }, { name := "T_DOUBLE", type := .int, accessFlags := 25, slot := 14, constantValue := 0 }, { name := "T_BYTE", type := .int, accessFlags := 25, slot := 15, constantValue := 0 }, { name := "T_SHORT", type := .int, accessFlags := 25, slot := 16, constantValue := 0 }, { name := "T_INT", type := .int, accessFlags := 25, slot := 17, constantValue := 0 }, { name := "T_LONG", type := .int, accessFlags := 25, slot := 18, constantValue := 0 }, { name := "JLA", type := (.object "jdk/internal/access/JavaLangAccess"), accessFlags := 26, slot := 19, constantValue := 0 }, { name := "SOFT_MAX_ARRAY_LENGTH", type := .int, accessFlags := 25, slot := 20, constantValue := 0 }]
  methods := #[k12m0]
  instanceTypes := #[]
  staticTypes := #[(.object "jdk/internal/misc/Unsafe"), .boolean, .int, .int, .int, .int, .int, .int, .int, .int, .int, .int, .int, .int, .int, .int, .int, .int, .int, (.object "jdk/internal/access/JavaLangAccess"), .int]
  resolved := Array.replicate 378 none
  statics := none }

def pool13 : Array CpInfo := pool [(1, u "java/lang/Cloneable"), (0, .class_ 1), (0, u "java/lang/Object"), (0, .class_ 3)] 3

/-- java/lang/Cloneable -/
def k13 : Class := { plain "java/lang/Cloneable" (some 0) with
  accessFlags := 1537
  interfaces := #[]
  cf := some (fileOf pool13 2 #[] #[] 1537 4 #[] #[])
  fields := #[]
  methods := #[]
  instanceTypes := #[]
  staticTypes := #[]
  resolved := Array.replicate 8 none
  statics := none }

/-- the primitive byte -/
def k14 : Class := { plain "byte" none with kind := .primitive 'B', accessFlags := 0x411 }
/-- [B -/
def k15 : Class := { plain "[B" (some 0) with kind := .array 14 .byte, interfaces := #[13, 2], accessFlags := 1041 }

/-- the primitive char -/
def k16 : Class := { plain "char" none with kind := .primitive 'C', accessFlags := 0x411 }
/-- [C -/
def k17 : Class := { plain "[C" (some 0) with kind := .array 16 .char, interfaces := #[13, 2], accessFlags := 1041 }

/-- the primitive int -/
def k18 : Class := { plain "int" none with kind := .primitive 'I', accessFlags := 0x411 }
/-- [I -/
def k19 : Class := { plain "[I" (some 0) with kind := .array 18 .int, interfaces := #[13, 2], accessFlags := 1041 }

def heap : Heap := #[{ cls := 7, slots := #[.long 0, .int 1, .null, .int 0, .null, .int 0, .int 0], vm := .statics 7 },
  { cls := 9, slots := #[.int 0, .int 8, .int 0, .int 1], vm := .statics 9 },
  { cls := 10, slots := #[.null, .null, .null], vm := .statics 10 }]
def classes : Array Class := #[k0, k1, k2, k3, k4, k5, k6, k7, k8, k9, k10, k11, k12, k13, k14, k15, k16, k17, k18, k19]
def interned : List (Array UInt16 × Addr) := []
def slotsUsed : Nat := 14
def theMethod : MethodId := ⟨1, 1⟩
def args0 : Array Value := #[.int 4, .int 3211312, .int 3342386, .int 0]
def aboutOver (below : List Frame) : State where
  vm := { classes := classes, interned := interned.toArray }
  heap := heap
  slotsUsed := slotsUsed
  threads := #[{ frames := .invoking theMethod args0 :: below }]
def below0 : List Frame := [.native { method := ⟨0, 0⟩, args := #[] }]
def about1 : State := aboutOver below0
def p0 : Program := .bare "" "" ""
def e0 : Env := launch0.env 0 0 0
theorem w_frames : about1.frames = Frame.invoking theMethod args0 :: below0 := rfl
set_option maxRecDepth 65536 in
theorem w_args : argsFit about1.vm theMethod args0 = true := by decide +kernel
set_option maxRecDepth 65536 in
theorem w_heap : heapFits about1 = true := by decide +kernel
set_option maxRecDepth 65536 in
theorem w_runnable : about1.curStatus? = some .runnable := by decide +kernel
set_option maxRecDepth 65536 in
theorem w_alone : about1.alone = true := by decide +kernel
set_option maxRecDepth 65536 in
theorem w_named : about1.methodNamed? x = some theMethod := by decide +kernel
set_option maxRecDepth 65536 in
theorem w_hears : about1.hears theMethod below0 = true := by decide +kernel
set_option maxRecDepth 65536 in
theorem w_ripe : about1.ripe theMethod args0 below0 = true := by decide +kernel
theorem w_running : about1.status = .running := rfl
set_option maxRecDepth 65536 in
theorem w_room : about1.hasRoom e0.platform room_1 = true :=
  launch0.hasRoom_least _ room_1 (by decide +kernel) (by decide +kernel) (by decide +kernel) (by decide +kernel) (by decide +kernel) (by decide +kernel)
theorem allAtoms_all (ts : List Jvm.Cond) (a : Array Jvm.Value) (st : Jvm.State) : (allAtoms ts).before a st = ts.all (fun c => c.before a st) := by
  induction ts with
  | nil => rfl
  | cons c t ih =>
    show (Jvm.Cond.and c (allAtoms t)).before a st = _
    rw [Jvm.Cond.before_and, ih, List.all_cons]
def words1 : List Jvm.Cond := Jvm.Cond.code x code maxLocals ret :: tables_1
/-- a 'code' word, met by the world's own term for the bytes: nothing is compared byte by byte -/
theorem code_word {y : MethodName} {bytes : ByteArray} {mx : Nat} {rt : Option FieldType} {a : Array Value} {s : State} {m : MethodId} {meth : Method} {c : Code} (h1 : s.methodNamed? y = some m) (h2 : s.vm.method? m = some meth) (h3 : meth.code = some c) (h4 : c.code = bytes)
    (h5 : (c.maxLocals == mx && c.exceptionTable.isEmpty && decide (c.maxStack ≤ mostOperands) && decide (meth.sig.returnType = rt) && !meth.locks && decide (parseMethodDescriptor y.desc = some meth.sig)) = true) : (Jvm.Cond.code y bytes mx rt).before a s = true := by
  simp only [Bool.and_eq_true, beq_iff_eq, Bool.not_eq_true', decide_eq_true_eq] at h5
  obtain ⟨⟨⟨⟨⟨g1, g2⟩, g3⟩, g4⟩, g5⟩, g6⟩ := h5
  simp [Cond.before, Cond.holds, Cond.value, h1, h2, h3, h4, g1, g2, g3, g4, g5, g6]
def isCode : Jvm.Cond → Bool
  | .code _ _ _ _ => true
  | _ => false
theorem all_split {L : List Jvm.Cond} {P : Jvm.Cond → Bool} (h1 : L.all (fun c => isCode c || P c) = true) (h2 : ∀ c ∈ L.filter isCode, P c = true) : L.all P = true := by
  refine List.all_eq_true.mpr fun c hc => ?_
  have h := List.all_eq_true.mp h1 c hc
  rcases Bool.eq_false_or_eq_true (isCode c) with hi | hi
  · exact h2 c (List.mem_filter.mpr ⟨hc, hi⟩)
  · simpa [hi] using h
set_option maxRecDepth 65536 in
theorem w_c0 : (Jvm.Cond.code x code maxLocals ret).before args0 about1 = true := code_word (m := ⟨1, 1⟩) (meth := k1m1) (c := k1c1) (by decide +kernel) rfl rfl rfl (by decide +kernel)
set_option maxRecDepth 65536 in
theorem w_c1 : (Jvm.Cond.code ({ cls := "com/example/longhaul/longhaul/IsoMessageIsTypePinLaw", name := "draw", desc := "(III)C" } : Jvm.MethodName) method_4_code (4 : Nat) (Option.some Jvm.ClassFile.FieldType.char)).before args0 about1 = true := code_word (m := ⟨1, 3⟩) (meth := k1m3) (c := k1c3) (by decide +kernel) rfl rfl rfl (by decide +kernel)
set_option maxRecDepth 65536 in
theorem w_c2 : (Jvm.Cond.code ({ cls := "com/example/longhaul/longhaul/IsoMessageIsTypePinLaw", name := "text", desc := "(ICCCCCC)Ljava/lang/String;" } : Jvm.MethodName) method_5_code (7 : Nat) (Option.some (Jvm.ClassFile.FieldType.object "java/lang/String"))).before args0 about1 = true := code_word (m := ⟨1, 4⟩) (meth := k1m4) (c := k1c4) (by decide +kernel) rfl rfl rfl (by decide +kernel)
set_option maxRecDepth 65536 in
theorem w_c3 : (Jvm.Cond.code ({ cls := "java/lang/String", name := "<init>", desc := "([C)V" } : Jvm.MethodName) jdk_42_method_3_code (2 : Nat) (Option.none : Option Jvm.ClassFile.FieldType)).before args0 about1 = true := code_word (m := ⟨7, 1⟩) (meth := k7m1) (c := k7c1) (by decide +kernel) rfl rfl rfl (by decide +kernel)
set_option maxRecDepth 65536 in
theorem w_c4 : (Jvm.Cond.code ({ cls := "java/lang/String", name := "<init>", desc := "([CIILjava/lang/Void;)V" } : Jvm.MethodName) jdk_42_method_149_code (6 : Nat) (Option.none : Option Jvm.ClassFile.FieldType)).before args0 about1 = true := code_word (m := ⟨7, 4⟩) (meth := k7m4) (c := k7c4) (by decide +kernel) rfl rfl rfl (by decide +kernel)
set_option maxRecDepth 65536 in
theorem w_c5 : (Jvm.Cond.code ({ cls := "java/lang/Object", name := "<init>", desc := "()V" } : Jvm.MethodName) object_method_1_code (1 : Nat) (Option.none : Option Jvm.ClassFile.FieldType)).before args0 about1 = true := code_word (m := ⟨0, 0⟩) (meth := k0m0) (c := k0c0) (by decide +kernel) rfl rfl rfl (by decide +kernel)
set_option maxRecDepth 65536 in
theorem w_c6 : (Jvm.Cond.code ({ cls := "com/example/longhaul/longhaul/IsoMessage", name := "isType", desc := "(Ljava/lang/CharSequence;)Z" } : Jvm.MethodName) prog_16_method_11_code (3 : Nat) (Option.some Jvm.ClassFile.FieldType.boolean)).before args0 about1 = true := code_word (m := ⟨8, 0⟩) (meth := k8m0) (c := k8c0) (by decide +kernel) rfl rfl rfl (by decide +kernel)
set_option maxRecDepth 65536 in
theorem w_c7 : (Jvm.Cond.code ({ cls := "java/lang/String", name := "length", desc := "()I" } : Jvm.MethodName) jdk_42_method_54_code (1 : Nat) (Option.some Jvm.ClassFile.FieldType.int)).before args0 about1 = true := code_word (m := ⟨7, 2⟩) (meth := k7m2) (c := k7c2) (by decide +kernel) rfl rfl rfl (by decide +kernel)
set_option maxRecDepth 65536 in
theorem w_c8 : (Jvm.Cond.code ({ cls := "java/lang/String", name := "coder", desc := "()B" } : Jvm.MethodName) jdk_42_method_152_code (1 : Nat) (Option.some Jvm.ClassFile.FieldType.byte)).before args0 about1 = true := code_word (m := ⟨7, 5⟩) (meth := k7m5) (c := k7c5) (by decide +kernel) rfl rfl rfl (by decide +kernel)
set_option maxRecDepth 65536 in
theorem w_c9 : (Jvm.Cond.code ({ cls := "java/lang/StringUTF16", name := "compress", desc := "([CII)[B" } : Jvm.MethodName) jdk_52_method_16_code (6 : Nat) (Option.some (Jvm.ClassFile.FieldType.array Jvm.ClassFile.FieldType.byte))).before args0 about1 = true := code_word (m := ⟨9, 8⟩) (meth := k9m8) (c := k9c8) (by decide +kernel) rfl rfl rfl (by decide +kernel)
set_option maxRecDepth 65536 in
theorem w_c10 : (Jvm.Cond.code ({ cls := "java/lang/StringUTF16", name := "compress", desc := "([CI[BII)I" } : Jvm.MethodName) jdk_52_method_21_code (7 : Nat) (Option.some Jvm.ClassFile.FieldType.int)).before args0 about1 = true := code_word (m := ⟨9, 9⟩) (meth := k9m9) (c := k9c9) (by decide +kernel) rfl rfl rfl (by decide +kernel)
set_option maxRecDepth 65536 in
theorem w_c11 : (Jvm.Cond.code ({ cls := "java/lang/StringUTF16", name := "coderFromArrayLen", desc := "([BI)B" } : Jvm.MethodName) jdk_52_method_15_code (2 : Nat) (Option.some Jvm.ClassFile.FieldType.byte)).before args0 about1 = true := code_word (m := ⟨9, 7⟩) (meth := k9m7) (c := k9c7) (by decide +kernel) rfl rfl rfl (by decide +kernel)
set_option maxRecDepth 65536 in
theorem w_c12 : (Jvm.Cond.code ({ cls := "java/lang/StringUTF16", name := "toBytes", desc := "([CII)[B" } : Jvm.MethodName) jdk_52_method_14_code (5 : Nat) (Option.some (Jvm.ClassFile.FieldType.array Jvm.ClassFile.FieldType.byte))).before args0 about1 = true := code_word (m := ⟨9, 6⟩) (meth := k9m6) (c := k9c6) (by decide +kernel) rfl rfl rfl (by decide +kernel)
set_option maxRecDepth 65536 in
theorem w_c13 : (Jvm.Cond.code ({ cls := "java/lang/StringUTF16", name := "newBytesFor", desc := "(I)[B" } : Jvm.MethodName) jdk_52_method_2_code (1 : Nat) (Option.some (Jvm.ClassFile.FieldType.array Jvm.ClassFile.FieldType.byte))).before args0 about1 = true := code_word (m := ⟨9, 1⟩) (meth := k9m1) (c := k9c1) (by decide +kernel) rfl rfl rfl (by decide +kernel)
set_option maxRecDepth 65536 in
theorem w_c14 : (Jvm.Cond.code ({ cls := "java/lang/StringUTF16", name := "newBytesLength", desc := "(I)I" } : Jvm.MethodName) jdk_52_method_3_code (1 : Nat) (Option.some Jvm.ClassFile.FieldType.int)).before args0 about1 = true := code_word (m := ⟨9, 2⟩) (meth := k9m2) (c := k9c2) (by decide +kernel) rfl rfl rfl (by decide +kernel)
set_option maxRecDepth 65536 in
theorem w_c15 : (Jvm.Cond.code ({ cls := "java/lang/StringUTF16", name := "putChar", desc := "([BII)V" } : Jvm.MethodName) jdk_52_method_4_code (3 : Nat) (Option.none : Option Jvm.ClassFile.FieldType)).before args0 about1 = true := code_word (m := ⟨9, 3⟩) (meth := k9m3) (c := k9c3) (by decide +kernel) rfl rfl rfl (by decide +kernel)
set_option maxRecDepth 65536 in
theorem w_c16 : (Jvm.Cond.code ({ cls := "java/lang/StringUTF16", name := "getChar", desc := "([BI)C" } : Jvm.MethodName) jdk_52_method_5_code (2 : Nat) (Option.some Jvm.ClassFile.FieldType.char)).before args0 about1 = true := code_word (m := ⟨9, 4⟩) (meth := k9m4) (c := k9c4) (by decide +kernel) rfl rfl rfl (by decide +kernel)
set_option maxRecDepth 65536 in
theorem w_c17 : (Jvm.Cond.code ({ cls := "com/example/longhaul/longhaul/IsoMessageIsTypePinLaw", name := "digit", desc := "(C)Z" } : Jvm.MethodName) method_3_code (1 : Nat) (Option.some Jvm.ClassFile.FieldType.boolean)).before args0 about1 = true := code_word (m := ⟨1, 2⟩) (meth := k1m2) (c := k1c2) (by decide +kernel) rfl rfl rfl (by decide +kernel)
set_option maxRecDepth 65536 in
theorem w_c18 : (Jvm.Cond.code ({ cls := "java/lang/String", name := "charAt", desc := "(I)C" } : Jvm.MethodName) jdk_42_method_56_code (2 : Nat) (Option.some Jvm.ClassFile.FieldType.char)).before args0 about1 = true := code_word (m := ⟨7, 3⟩) (meth := k7m3) (c := k7c3) (by decide +kernel) rfl rfl rfl (by decide +kernel)
set_option maxRecDepth 65536 in
theorem w_c19 : (Jvm.Cond.code ({ cls := "java/lang/String", name := "isLatin1", desc := "()Z" } : Jvm.MethodName) jdk_42_method_154_code (1 : Nat) (Option.some Jvm.ClassFile.FieldType.boolean)).before args0 about1 = true := code_word (m := ⟨7, 6⟩) (meth := k7m6) (c := k7c6) (by decide +kernel) rfl rfl rfl (by decide +kernel)
set_option maxRecDepth 65536 in
theorem w_c20 : (Jvm.Cond.code ({ cls := "java/lang/StringUTF16", name := "charAt", desc := "([BI)C" } : Jvm.MethodName) jdk_52_method_83_code (2 : Nat) (Option.some Jvm.ClassFile.FieldType.char)).before args0 about1 = true := code_word (m := ⟨9, 10⟩) (meth := k9m10) (c := k9c10) (by decide +kernel) rfl rfl rfl (by decide +kernel)
set_option maxRecDepth 65536 in
theorem w_c21 : (Jvm.Cond.code ({ cls := "java/lang/StringUTF16", name := "checkIndex", desc := "(I[B)V" } : Jvm.MethodName) jdk_52_method_91_code (2 : Nat) (Option.none : Option Jvm.ClassFile.FieldType)).before args0 about1 = true := code_word (m := ⟨9, 11⟩) (meth := k9m11) (c := k9c11) (by decide +kernel) rfl rfl rfl (by decide +kernel)
set_option maxRecDepth 65536 in
theorem w_c22 : (Jvm.Cond.code ({ cls := "java/lang/StringUTF16", name := "length", desc := "([B)I" } : Jvm.MethodName) jdk_52_method_6_code (1 : Nat) (Option.some Jvm.ClassFile.FieldType.int)).before args0 about1 = true := code_word (m := ⟨9, 5⟩) (meth := k9m5) (c := k9c5) (by decide +kernel) rfl rfl rfl (by decide +kernel)
set_option maxRecDepth 65536 in
theorem w_c23 : (Jvm.Cond.code ({ cls := "java/lang/String", name := "checkIndex", desc := "(II)V" } : Jvm.MethodName) jdk_42_method_155_code (2 : Nat) (Option.none : Option Jvm.ClassFile.FieldType)).before args0 about1 = true := code_word (m := ⟨7, 7⟩) (meth := k7m7) (c := k7c7) (by decide +kernel) rfl rfl rfl (by decide +kernel)
set_option maxRecDepth 65536 in
theorem w_c24 : (Jvm.Cond.code ({ cls := "jdk/internal/util/Preconditions", name := "checkIndex", desc := "(IILjava/util/function/BiFunction;)I" } : Jvm.MethodName) jdk_41_method_11_code (3 : Nat) (Option.some Jvm.ClassFile.FieldType.int)).before args0 about1 = true := code_word (m := ⟨10, 1⟩) (meth := k10m1) (c := k10c1) (by decide +kernel) rfl rfl rfl (by decide +kernel)
set_option maxRecDepth 65536 in
theorem w_c25 : (Jvm.Cond.code ({ cls := "java/lang/StringLatin1", name := "charAt", desc := "([BI)C" } : Jvm.MethodName) jdk_43_method_2_code (2 : Nat) (Option.some Jvm.ClassFile.FieldType.char)).before args0 about1 = true := code_word (m := ⟨11, 1⟩) (meth := k11m1) (c := k11c1) (by decide +kernel) rfl rfl rfl (by decide +kernel)
def codes1 : List Jvm.Cond := [Jvm.Cond.code x code maxLocals ret, Jvm.Cond.code ({ cls := "com/example/longhaul/longhaul/IsoMessageIsTypePinLaw", name := "draw", desc := "(III)C" } : Jvm.MethodName) method_4_code (4 : Nat) (Option.some Jvm.ClassFile.FieldType.char), Jvm.Cond.code ({ cls := "com/example/longhaul/longhaul/IsoMessageIsTypePinLaw", name := "text", desc := "(ICCCCCC)Ljava/lang/String;" } : Jvm.MethodName) method_5_code (7 : Nat) (Option.some (Jvm.ClassFile.FieldType.object "java/lang/String")), Jvm.Cond.code ({ cls := "java/lang/String", name := "<init>", desc := "([C)V" } : Jvm.MethodName) jdk_42_method_3_code (2 : Nat) (Option.none : Option Jvm.ClassFile.FieldType), Jvm.Cond.code ({ cls := "java/lang/String", name := "<init>", desc := "([CIILjava/lang/Void;)V" } : Jvm.MethodName) jdk_42_method_149_code (6 : Nat) (Option.none : Option Jvm.ClassFile.FieldType), Jvm.Cond.code ({ cls := "java/lang/Object", name := "<init>", desc := "()V" } : Jvm.MethodName) object_method_1_code (1 : Nat) (Option.none : Option Jvm.ClassFile.FieldType), Jvm.Cond.code ({ cls := "com/example/longhaul/longhaul/IsoMessage", name := "isType", desc := "(Ljava/lang/CharSequence;)Z" } : Jvm.MethodName) prog_16_method_11_code (3 : Nat) (Option.some Jvm.ClassFile.FieldType.boolean), Jvm.Cond.code ({ cls := "java/lang/String", name := "length", desc := "()I" } : Jvm.MethodName) jdk_42_method_54_code (1 : Nat) (Option.some Jvm.ClassFile.FieldType.int), Jvm.Cond.code ({ cls := "java/lang/String", name := "coder", desc := "()B" } : Jvm.MethodName) jdk_42_method_152_code (1 : Nat) (Option.some Jvm.ClassFile.FieldType.byte), Jvm.Cond.code ({ cls := "java/lang/StringUTF16", name := "compress", desc := "([CII)[B" } : Jvm.MethodName) jdk_52_method_16_code (6 : Nat) (Option.some (Jvm.ClassFile.FieldType.array Jvm.ClassFile.FieldType.byte)), Jvm.Cond.code ({ cls := "java/lang/StringUTF16", name := "compress", desc := "([CI[BII)I" } : Jvm.MethodName) jdk_52_method_21_code (7 : Nat) (Option.some Jvm.ClassFile.FieldType.int), Jvm.Cond.code ({ cls := "java/lang/StringUTF16", name := "coderFromArrayLen", desc := "([BI)B" } : Jvm.MethodName) jdk_52_method_15_code (2 : Nat) (Option.some Jvm.ClassFile.FieldType.byte), Jvm.Cond.code ({ cls := "java/lang/StringUTF16", name := "toBytes", desc := "([CII)[B" } : Jvm.MethodName) jdk_52_method_14_code (5 : Nat) (Option.some (Jvm.ClassFile.FieldType.array Jvm.ClassFile.FieldType.byte)), Jvm.Cond.code ({ cls := "java/lang/StringUTF16", name := "newBytesFor", desc := "(I)[B" } : Jvm.MethodName) jdk_52_method_2_code (1 : Nat) (Option.some (Jvm.ClassFile.FieldType.array Jvm.ClassFile.FieldType.byte)), Jvm.Cond.code ({ cls := "java/lang/StringUTF16", name := "newBytesLength", desc := "(I)I" } : Jvm.MethodName) jdk_52_method_3_code (1 : Nat) (Option.some Jvm.ClassFile.FieldType.int), Jvm.Cond.code ({ cls := "java/lang/StringUTF16", name := "putChar", desc := "([BII)V" } : Jvm.MethodName) jdk_52_method_4_code (3 : Nat) (Option.none : Option Jvm.ClassFile.FieldType), Jvm.Cond.code ({ cls := "java/lang/StringUTF16", name := "getChar", desc := "([BI)C" } : Jvm.MethodName) jdk_52_method_5_code (2 : Nat) (Option.some Jvm.ClassFile.FieldType.char), Jvm.Cond.code ({ cls := "com/example/longhaul/longhaul/IsoMessageIsTypePinLaw", name := "digit", desc := "(C)Z" } : Jvm.MethodName) method_3_code (1 : Nat) (Option.some Jvm.ClassFile.FieldType.boolean), Jvm.Cond.code ({ cls := "java/lang/String", name := "charAt", desc := "(I)C" } : Jvm.MethodName) jdk_42_method_56_code (2 : Nat) (Option.some Jvm.ClassFile.FieldType.char), Jvm.Cond.code ({ cls := "java/lang/String", name := "isLatin1", desc := "()Z" } : Jvm.MethodName) jdk_42_method_154_code (1 : Nat) (Option.some Jvm.ClassFile.FieldType.boolean), Jvm.Cond.code ({ cls := "java/lang/StringUTF16", name := "charAt", desc := "([BI)C" } : Jvm.MethodName) jdk_52_method_83_code (2 : Nat) (Option.some Jvm.ClassFile.FieldType.char), Jvm.Cond.code ({ cls := "java/lang/StringUTF16", name := "checkIndex", desc := "(I[B)V" } : Jvm.MethodName) jdk_52_method_91_code (2 : Nat) (Option.none : Option Jvm.ClassFile.FieldType), Jvm.Cond.code ({ cls := "java/lang/StringUTF16", name := "length", desc := "([B)I" } : Jvm.MethodName) jdk_52_method_6_code (1 : Nat) (Option.some Jvm.ClassFile.FieldType.int), Jvm.Cond.code ({ cls := "java/lang/String", name := "checkIndex", desc := "(II)V" } : Jvm.MethodName) jdk_42_method_155_code (2 : Nat) (Option.none : Option Jvm.ClassFile.FieldType), Jvm.Cond.code ({ cls := "jdk/internal/util/Preconditions", name := "checkIndex", desc := "(IILjava/util/function/BiFunction;)I" } : Jvm.MethodName) jdk_41_method_11_code (3 : Nat) (Option.some Jvm.ClassFile.FieldType.int), Jvm.Cond.code ({ cls := "java/lang/StringLatin1", name := "charAt", desc := "([BI)C" } : Jvm.MethodName) jdk_43_method_2_code (2 : Nat) (Option.some Jvm.ClassFile.FieldType.char)]
set_option maxRecDepth 65536 in
theorem codes_eq : words1.filter isCode = codes1 := rfl
theorem w_codes : ∀ c ∈ words1.filter isCode, c.before args0 about1 = true := by
  rw [codes_eq]
  intro c hc
  simp only [codes1, List.mem_cons, List.not_mem_nil, or_false] at hc
  rcases hc with rfl | rfl | rfl | rfl | rfl | rfl | rfl | rfl | rfl | rfl | rfl | rfl | rfl | rfl | rfl | rfl | rfl | rfl | rfl | rfl | rfl | rfl | rfl | rfl | rfl | rfl
  · exact w_c0
  · exact w_c1
  · exact w_c2
  · exact w_c3
  · exact w_c4
  · exact w_c5
  · exact w_c6
  · exact w_c7
  · exact w_c8
  · exact w_c9
  · exact w_c10
  · exact w_c11
  · exact w_c12
  · exact w_c13
  · exact w_c14
  · exact w_c15
  · exact w_c16
  · exact w_c17
  · exact w_c18
  · exact w_c19
  · exact w_c20
  · exact w_c21
  · exact w_c22
  · exact w_c23
  · exact w_c24
  · exact w_c25
set_option maxRecDepth 65536 in
theorem w_t1 : (words1.take 24).all (fun c => isCode c || c.before args0 about1) = true := by decide +kernel
set_option maxRecDepth 65536 in
theorem w_t2 : ((words1.drop 24).take 24).all (fun c => isCode c || c.before args0 about1) = true := by decide +kernel
set_option maxRecDepth 65536 in
theorem w_t3 : (((words1.drop 24).drop 24).take 24).all (fun c => isCode c || c.before args0 about1) = true := by decide +kernel
set_option maxRecDepth 65536 in
theorem w_t4 : ((((words1.drop 24).drop 24).drop 24).take 24).all (fun c => isCode c || c.before args0 about1) = true := by decide +kernel
set_option maxRecDepth 65536 in
theorem w_t5 : ((((words1.drop 24).drop 24).drop 24).drop 24).all (fun c => isCode c || c.before args0 about1) = true := by decide +kernel
theorem w_tables : (allAtoms (Jvm.Cond.code x code maxLocals ret :: tables_1)).before args0 about1 = true := by
  rw [allAtoms_all]
  show words1.all (fun c => c.before args0 about1) = true
  refine all_split ?_ w_codes
  rw [← List.take_append_drop 24 words1, List.all_append, w_t1, ← List.take_append_drop 24 (words1.drop 24), List.all_append, w_t2, ← List.take_append_drop 24 ((words1.drop 24).drop 24), List.all_append, w_t3, ← List.take_append_drop 24 (((words1.drop 24).drop 24).drop 24), List.all_append, w_t4, w_t5]
  rfl
set_option maxRecDepth 65536 in
theorem w_rest : rest_1_c.before args0 about1 = true := by decide +kernel
set_option maxRecDepth 65536 in
theorem w_case : (Jvm.Cond.and given_1 narrow_1).before args0 about1 = true := by decide +kernel
set_option maxRecDepth 65536 in
theorem w_consts : constsHeld consts_1 about1 := Jvm.Lit.constsHeldB_iff.mp (by decide +kernel)
theorem w_applies : (headSpec (Jvm.Cond.code x code maxLocals ret :: tables_1) room_1).applies x e0.platform about1 = true :=
  (Spec.applies_iff w_frames).mpr ⟨w_running, w_runnable, w_alone, w_named, w_hears, w_ripe, w_room, w_tables⟩
theorem atStart : AtStart classFile x code maxLocals ret World_1 tables_1 room_1 Calls_1 rest_1 Pre_1 launch0 p0 e0 about1 theMethod args0 below0 :=
  ⟨lists_1, trivial, launch0.admits_env _ _ _, launch0.least_env, fairChoices_fair.cas, fairChoices_fair.clock, w_frames, w_args, w_heap, w_applies, ⟨w_consts, trivial⟩, w_rest, w_case⟩
end start1
theorem witness_1 : WitnessClaimed_1 := ⟨start1.p0, start1.e0, start1.about1, start1.theMethod, start1.args0, start1.below0, start1.atStart⟩
end Jvm.Pilot.@@N@@
