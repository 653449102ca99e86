import JvmDerived
import JvmDerived.Pilot.@@N@@Statement
import JvmDerived.Pilot.@@N@@Code
set_option linter.unusedVariables false
set_option linter.unusedSimpArgs false
namespace Jvm.Pilot.@@N@@
open Jvm Jvm.ClassFile Sem Op Lib Jvm.Free Jvm.Stand Jvm.LawKit Jvm.RoadKit Bundle Jvm.Pilot.@@N@@.Jvm.D
/-! ### own kit: a walk in continuation style: Go .. h k n pc Ls st: from heap h, with k cells and n slots made, at pc with locals Ls and stack st, the run comes to its end as F says -/
abbrev Wk : Type := Program × Env × State × MethodId × Array Value × List Frame × Method × Code × Nat
abbrev Wk.p (w : Wk) : Program := w.1
abbrev Wk.e (w : Wk) : Env := w.2.1
abbrev Wk.s (w : Wk) : State := w.2.2.1
abbrev Wk.m (w : Wk) : MethodId := w.2.2.2.1
abbrev Wk.as (w : Wk) : Array Value := w.2.2.2.2.1
abbrev Wk.below (w : Wk) : List Frame := w.2.2.2.2.2.1
abbrev Wk.meth (w : Wk) : Method := w.2.2.2.2.2.2.1
abbrev Wk.c (w : Wk) : Code := w.2.2.2.2.2.2.2.1
abbrev Wk.kk (w : Wk) : Nat := w.2.2.2.2.2.2.2.2
/-- what may be said at the end, of a run that leaves with v -/
def Lv (w : Wk) (R : Room) (n0 : Nat) (Q : Option Value → Heap → Prop) (Y : State → Outcome → Prop) : Prop :=
  ∀ (T : State) (fs : List Frame) (locs : List Loc) (k n : Nat) (v : Option Value), w.s.WarmedH (T.setFrames fs).vm → w.s.sameButNew ({ T.setFrames fs with vm := w.s.vm } : State) locs k n → Fr n0 locs → w.kk ≤ T.heap.size → k ≤ R.cells → n ≤ R.slots → Q v T.heap → Y (T.setFrames fs) (.returned v)
def Nar (w : Wk) (R : Room) (n0 : Nat) (Q : Option Value → Heap → Prop) : State → Outcome → Prop := fun t o => ∃ v L, o = .returned v ∧ (Q v t.heap ∧ Fr n0 L ∧ w.kk ≤ t.heap.size) ∧ FrameEnd w.s o t L R.cells R.slots
theorem Lv.nar (w : Wk) (R : Room) (n0 : Nat) (Q : Option Value → Heap → Prop) : Lv w R n0 Q (Nar w R n0 Q) := fun T fs locs k n v hW hs N hk hc hn hQ => ⟨v, locs, rfl, ⟨hQ, N, hk⟩, ⟨v, rfl⟩, hW, hs.mono hc hn⟩
/-- what stays the same through a body's walk -/
def Cx (w : Wk) (Z : State) (own : String) (bytes : ByteArray) (ml : Nat) (rt : Option FieldType) (nm : String) (R : Room) (n0 : Nat) (Q : Option Value → Heap → Prop) (Y : State → Outcome → Prop) : Prop :=
  w.p.tables.exec = Jvm.exec ∧ w.c.code = bytes ∧ w.c.maxLocals = ml ∧ w.s.vm.findClass own = some w.m.cls ∧ Z.Warmed39 w.s.vm ∧ w.meth.sig.returnType = rt ∧ w.meth.locks = false ∧ w.meth.name = nm ∧ Lv w R n0 Q Y
def Go (w : Wk) (l : Launch) (R : Room) (n0 : Nat) (Y : State → Outcome → Prop) (h : Heap) (k n pc : Nat) (Ls : Array Slot) (st : List Value) : Prop :=
  ∀ (T : State) (locs : List Loc), Stand w.p l w.e R w.s w.m w.as w.below w.meth w.c T locs k n → T.heap = h → n0 ≤ h.size ∧ w.kk ≤ h.size → Fr n0 locs →
    ∃ s₂ o, Steps w.p.tables w.e w.below (T.setTop (mkF w.m pc Ls st)) s₂ ∧ s₂.status = .running ∧ Ended s₂ w.below o ∧ Y s₂ o
def Met (l : Launch) (Z : State) (y : MethodName) (bytes : ByteArray) (ml : Nat) (rt : Option FieldType) (rm : Room) (n0 : Nat) (h0 : Heap) (as' : Array Value) (Q : Option Value → Heap → Prop) : Prop :=
  n0 ≤ h0.size → ∀ ws, MetFree l y (head1 (Jvm.Cond.code y bytes ml rt :: ws) rm) (fun a U => a = as' ∧ Z.Warmed39 U.vm ∧ U.heap = h0) (fun _ _ _ _ _ => True) (fun _ U o U' => ∃ v L, o = .returned v ∧ (Q v U'.heap ∧ Fr n0 L ∧ h0.size ≤ U'.heap.size) ∧ FrameEnd U o U' L rm.cells rm.slots)
section OwnKit
variable {w : Wk} {l : Launch} {R : Room} {Z : State} {a0 : Array Value} {own : String} {bytes : ByteArray} {ml : Nat} {rt : Option FieldType} {nm : String} {n0 : Nat} {Q : Option Value → Heap → Prop} {Y : State → Outcome → Prop} {h : Heap} {k n pc pc' : Nat} {Ls Ls' : Array Slot} {st rest : List Value}
theorem Cx.hx (C : Cx w Z own bytes ml rt nm R n0 Q Y) : w.p.tables.exec = Jvm.exec := C.1
theorem Cx.d (C : Cx w Z own bytes ml rt nm R n0 Q Y) {pc : Nat} {r : Except ClassFile.DecodeError (ClassFile.Instr × Nat)} (hd : decode bytes pc = r) : decode w.c.code pc = r := C.2.1 ▸ hd
theorem Cx.hml (C : Cx w Z own bytes ml rt nm R n0 Q Y) : w.c.maxLocals = ml := C.2.2.1
theorem Cx.hown (C : Cx w Z own bytes ml rt nm R n0 Q Y) : w.s.vm.findClass own = some w.m.cls := C.2.2.2.1
theorem Cx.hZ (C : Cx w Z own bytes ml rt nm R n0 Q Y) : Z.Warmed39 w.s.vm := C.2.2.2.2.1
theorem Cx.ret (C : Cx w Z own bytes ml rt nm R n0 Q Y) : w.meth.sig.returnType = rt := C.2.2.2.2.2.1
theorem Cx.locks (C : Cx w Z own bytes ml rt nm R n0 Q Y) : w.meth.locks = false := C.2.2.2.2.2.2.1
theorem Cx.name (C : Cx w Z own bytes ml rt nm R n0 Q Y) : w.meth.name = nm := C.2.2.2.2.2.2.2.1
theorem Cx.lv (C : Cx w Z own bytes ml rt nm R n0 Q Y) : Lv w R n0 Q Y := C.2.2.2.2.2.2.2.2
theorem Met.intro {y : MethodName} {rm : Room} {h0 : Heap} {as' : Array Value} (hp : plainFor y = true) (hef : ∀ m, entryFrame m as' ml = mkF m 0 Ls [])
    (H : ∀ (w : Wk) (Y : State → Outcome → Prop), Cx w Z y.cls bytes ml rt y.name rm n0 Q Y → Go w l rm n0 Y h0 0 0 0 Ls []) : Met l Z y bytes ml rt rm n0 h0 as' Q := by
  intro hn ws
  refine MetFree.of_bodySF hp hisR ?_
  intro p e s m args below meth c s₁ Bd hml0 hP hK
  obtain ⟨rfl, hZ, hh⟩ := hP
  have X0 : Stand p l e rm s m args below meth c s₁ [] 0 0 := Stand.of_body Bd
  have e0 : s₁.heap = h0 := by rw [← hh, Bd.state]; rfl
  obtain ⟨s₂, o, g1, g2, g3, g4⟩ := H (p, e, s, m, args, below, meth, c, h0.size) _ ⟨Bd.exec, Bd.bytes, hml0, findClass_of_methodNamed Bd.named, hZ, Bd.returns, BodyLoose.notSynchronized Bd, (name_of_methodNamed Bd.named Bd.method).1, Lv.nar _ _ _ _⟩ s₁ [] X0 e0 ⟨hn, Nat.le_refl _⟩ (Fr.nil n0)
  exact ⟨s₂, o, castTop (hef m) g1, g2, g3, g4⟩
theorem Go.plain {st' : List Value} (f : ∀ (T t : State), At T w.m w.c w.below → Steps w.p.tables w.e w.below (T.setTop (mkF w.m pc' Ls' st')) t → Steps w.p.tables w.e w.below (T.setTop (mkF w.m pc Ls st)) t) (G : Go w l R n0 Y h k n pc' Ls' st') : Go w l R n0 Y h k n pc Ls st := by
  intro T locs X hT hn N
  obtain ⟨s₂, o, h1, h2⟩ := G T locs X hT hn N
  exact ⟨s₂, o, f T s₂ X.here h1, h2⟩
theorem Go.stand {st' : List Value} (f : ∀ (T t : State) (locs : List Loc), Stand w.p l w.e R w.s w.m w.as w.below w.meth w.c T locs k n → T.heap = h → Steps w.p.tables w.e w.below (T.setTop (mkF w.m pc' Ls' st')) t → Steps w.p.tables w.e w.below (T.setTop (mkF w.m pc Ls st)) t) (G : Go w l R n0 Y h k n pc' Ls' st') : Go w l R n0 Y h k n pc Ls st := by
  intro T locs X hT hn N
  obtain ⟨s₂, o, h1, h2⟩ := G T locs X hT hn N
  exact ⟨s₂, o, f T s₂ locs X hT h1, h2⟩
theorem Go.size (G : n0 ≤ h.size → Go w l R n0 Y h k n pc Ls st) : Go w l R n0 Y h k n pc Ls st := fun T locs X hT hn N => G hn.1 T locs X hT hn N
theorem own_grow {kk : Nat} {h h' : Heap} (hn : n0 ≤ h.size ∧ kk ≤ h.size) (E : h.size ≤ h'.size) : n0 ≤ h'.size ∧ kk ≤ h'.size := ⟨Nat.le_trans hn.1 E, Nat.le_trans hn.2 E⟩
theorem g_iloadN (C : Cx w Z own bytes ml rt nm R n0 Q Y) {i : Fin 4} {v : Int32} (hd : decode bytes pc = .ok (.iload_n i, 1)) (hp : pc + 1 = pc') (hl : Ls[i.val]? = some (.val (.int v))) (G : Go w l R n0 Y h k n pc' Ls (.int v :: st)) : Go w l R n0 Y h k n pc Ls (st) := by
  subst hp; exact Go.plain (fun T t H K => XS.iloadN H C.hx rfl (C.d hd) hl K) G
theorem g_iload (C : Cx w Z own bytes ml rt nm R n0 Q Y) {i : Nat} {v : Int32} (hd : decode bytes pc = .ok (.iload i, 2)) (hp : pc + 2 = pc') (hl : Ls[i]? = some (.val (.int v))) (G : Go w l R n0 Y h k n pc' Ls (.int v :: st)) : Go w l R n0 Y h k n pc Ls (st) := by
  subst hp; exact Go.plain (fun T t H K => XS.iload H C.hx rfl (C.d hd) hl K) G
theorem g_lloadN (C : Cx w Z own bytes ml rt nm R n0 Q Y) {i : Fin 4} {v : Int64} (hd : decode bytes pc = .ok (.lload_n i, 1)) (hp : pc + 1 = pc') (hl : Ls[i.val]? = some (.val (.long v))) (G : Go w l R n0 Y h k n pc' Ls (.long v :: st)) : Go w l R n0 Y h k n pc Ls (st) := by
  subst hp; exact Go.plain (fun T t H K => XS.lloadN H C.hx rfl (C.d hd) hl K) G
theorem g_lload (C : Cx w Z own bytes ml rt nm R n0 Q Y) {i : Nat} {v : Int64} (hd : decode bytes pc = .ok (.lload i, 2)) (hp : pc + 2 = pc') (hl : Ls[i]? = some (.val (.long v))) (G : Go w l R n0 Y h k n pc' Ls (.long v :: st)) : Go w l R n0 Y h k n pc Ls (st) := by
  subst hp; exact Go.plain (fun T t H K => XS.lload H C.hx rfl (C.d hd) hl K) G
theorem g_aloadN (C : Cx w Z own bytes ml rt nm R n0 Q Y) {i : Fin 4} {v : Value} (hd : decode bytes pc = .ok (.aload_n i, 1)) (hp : pc + 1 = pc') (hl : Ls[i.val]? = some (.val v)) (hv : v.isRef = true) (G : Go w l R n0 Y h k n pc' Ls (v :: st)) : Go w l R n0 Y h k n pc Ls (st) := by
  subst hp; exact Go.plain (fun T t H K => XS.aloadN H C.hx rfl (C.d hd) hl hv K) G
theorem g_aload (C : Cx w Z own bytes ml rt nm R n0 Q Y) {i : Nat} {v : Value} (hd : decode bytes pc = .ok (.aload i, 2)) (hp : pc + 2 = pc') (hl : Ls[i]? = some (.val v)) (hv : v.isRef = true) (G : Go w l R n0 Y h k n pc' Ls (v :: st)) : Go w l R n0 Y h k n pc Ls (st) := by
  subst hp; exact Go.plain (fun T t H K => XS.aload H C.hx rfl (C.d hd) hl hv K) G
theorem g_istoreN (C : Cx w Z own bytes ml rt nm R n0 Q Y) {i : Fin 4} {x : Int32} (hd : decode bytes pc = .ok (.istore_n i, 1)) (hp : pc + 1 = pc') (hl : storeLocals Ls i.val (.int x) = some Ls') (G : Go w l R n0 Y h k n pc' Ls' rest) : Go w l R n0 Y h k n pc Ls (.int x :: rest) := by
  subst hp; exact Go.plain (fun T t H K => XS.istoreN H C.hx rfl (C.d hd) rfl hl K) G
theorem g_istore (C : Cx w Z own bytes ml rt nm R n0 Q Y) {i : Nat} {x : Int32} (hd : decode bytes pc = .ok (.istore i, 2)) (hp : pc + 2 = pc') (hl : storeLocals Ls i (.int x) = some Ls') (G : Go w l R n0 Y h k n pc' Ls' rest) : Go w l R n0 Y h k n pc Ls (.int x :: rest) := by
  subst hp; exact Go.plain (fun T t H K => XS.istore H C.hx rfl (C.d hd) rfl hl K) G
theorem g_lstoreN (C : Cx w Z own bytes ml rt nm R n0 Q Y) {i : Fin 4} {x : Int64} (hd : decode bytes pc = .ok (.lstore_n i, 1)) (hp : pc + 1 = pc') (hl : storeLocals Ls i.val (.long x) = some Ls') (G : Go w l R n0 Y h k n pc' Ls' rest) : Go w l R n0 Y h k n pc Ls (.long x :: rest) := by
  subst hp; exact Go.plain (fun T t H K => XS.lstoreN H C.hx rfl (C.d hd) rfl hl K) G
theorem g_lstore (C : Cx w Z own bytes ml rt nm R n0 Q Y) {i : Nat} {x : Int64} (hd : decode bytes pc = .ok (.lstore i, 2)) (hp : pc + 2 = pc') (hl : storeLocals Ls i (.long x) = some Ls') (G : Go w l R n0 Y h k n pc' Ls' rest) : Go w l R n0 Y h k n pc Ls (.long x :: rest) := by
  subst hp; exact Go.plain (fun T t H K => XS.lstore H C.hx rfl (C.d hd) rfl hl K) G
theorem g_astoreN (C : Cx w Z own bytes ml rt nm R n0 Q Y) {i : Fin 4} {x : Value} (hd : decode bytes pc = .ok (.astore_n i, 1)) (hp : pc + 1 = pc') (hv : x.isRef = true) (hl : storeLocals Ls i.val (x) = some Ls') (G : Go w l R n0 Y h k n pc' Ls' rest) : Go w l R n0 Y h k n pc Ls (x :: rest) := by
  subst hp; exact Go.plain (fun T t H K => XS.astoreN H C.hx rfl (C.d hd) rfl hv hl K) G
theorem g_astore (C : Cx w Z own bytes ml rt nm R n0 Q Y) {i : Nat} {x : Value} (hd : decode bytes pc = .ok (.astore i, 2)) (hp : pc + 2 = pc') (hv : x.isRef = true) (hl : storeLocals Ls i (x) = some Ls') (G : Go w l R n0 Y h k n pc' Ls' rest) : Go w l R n0 Y h k n pc Ls (x :: rest) := by
  subst hp; exact Go.plain (fun T t H K => XS.astore H C.hx rfl (C.d hd) rfl hv hl K) G
theorem g_iconst (C : Cx w Z own bytes ml rt nm R n0 Q Y) {i : Int} {z : Int32} (hd : decode bytes pc = .ok (.iconst i, 1)) (hp : pc + 1 = pc') (hz : Int32.ofInt i = z) (G : Go w l R n0 Y h k n pc' Ls (.int z :: st)) : Go w l R n0 Y h k n pc Ls st := by
  subst hp hz; exact Go.plain (fun T t H K => XS.iconst H C.hx rfl (C.d hd) K) G
theorem g_bipush (C : Cx w Z own bytes ml rt nm R n0 Q Y) {i : Int} {z : Int32} (hd : decode bytes pc = .ok (.bipush i, 2)) (hp : pc + 2 = pc') (hz : (Int8.ofInt i).toInt32 = z) (G : Go w l R n0 Y h k n pc' Ls (.int z :: st)) : Go w l R n0 Y h k n pc Ls st := by
  subst hp hz; exact Go.plain (fun T t H K => XS.bipush H C.hx rfl (C.d hd) K) G
theorem g_sipush (C : Cx w Z own bytes ml rt nm R n0 Q Y) {i : Int} {z : Int32} (hd : decode bytes pc = .ok (.sipush i, 3)) (hp : pc + 3 = pc') (hz : (Int16.ofInt i).toInt32 = z) (G : Go w l R n0 Y h k n pc' Ls (.int z :: st)) : Go w l R n0 Y h k n pc Ls st := by
  subst hp hz; exact Go.plain (fun T t H K => XS.sipush H C.hx rfl (C.d hd) K) G
theorem g_lconst (C : Cx w Z own bytes ml rt nm R n0 Q Y) {i : Fin 2} {z : Int64} (hd : decode bytes pc = .ok (.lconst i, 1)) (hp : pc + 1 = pc') (hz : Int64.ofNat i = z) (G : Go w l R n0 Y h k n pc' Ls (.long z :: st)) : Go w l R n0 Y h k n pc Ls st := by
  subst hp hz; exact Go.plain (fun T t H K => XS.lconst H C.hx rfl (C.d hd) K) G
theorem g_null (C : Cx w Z own bytes ml rt nm R n0 Q Y) (hd : decode bytes pc = .ok (.aconst_null, 1)) (hp : pc + 1 = pc') (G : Go w l R n0 Y h k n pc' Ls (.null :: st)) : Go w l R n0 Y h k n pc Ls (st) := by
  subst hp; exact Go.plain (fun T t H K => XS.aconstNull H C.hx rfl (C.d hd)  K) G
theorem g_iadd (C : Cx w Z own bytes ml rt nm R n0 Q Y) {x y : Int32} (hd : decode bytes pc = .ok (.iadd, 1)) (hp : pc + 1 = pc') (G : Go w l R n0 Y h k n pc' Ls (.int (x + y) :: rest)) : Go w l R n0 Y h k n pc Ls (.int y :: .int x :: rest) := by
  subst hp; exact Go.plain (fun T t H K => XS.iadd H C.hx rfl (C.d hd) rfl K) G
theorem g_isub (C : Cx w Z own bytes ml rt nm R n0 Q Y) {x y : Int32} (hd : decode bytes pc = .ok (.isub, 1)) (hp : pc + 1 = pc') (G : Go w l R n0 Y h k n pc' Ls (.int (x - y) :: rest)) : Go w l R n0 Y h k n pc Ls (.int y :: .int x :: rest) := by
  subst hp; exact Go.plain (fun T t H K => XS.isub H C.hx rfl (C.d hd) rfl K) G
theorem g_imul (C : Cx w Z own bytes ml rt nm R n0 Q Y) {x y : Int32} (hd : decode bytes pc = .ok (.imul, 1)) (hp : pc + 1 = pc') (G : Go w l R n0 Y h k n pc' Ls (.int (x * y) :: rest)) : Go w l R n0 Y h k n pc Ls (.int y :: .int x :: rest) := by
  subst hp; exact Go.plain (fun T t H K => XS.imul H C.hx rfl (C.d hd) rfl K) G
theorem g_iand (C : Cx w Z own bytes ml rt nm R n0 Q Y) {x y : Int32} (hd : decode bytes pc = .ok (.iand, 1)) (hp : pc + 1 = pc') (G : Go w l R n0 Y h k n pc' Ls (.int (x &&& y) :: rest)) : Go w l R n0 Y h k n pc Ls (.int y :: .int x :: rest) := by
  subst hp; exact Go.plain (fun T t H K => XS.iand H C.hx rfl (C.d hd) rfl K) G
theorem g_ior (C : Cx w Z own bytes ml rt nm R n0 Q Y) {x y : Int32} (hd : decode bytes pc = .ok (.ior, 1)) (hp : pc + 1 = pc') (G : Go w l R n0 Y h k n pc' Ls (.int (x ||| y) :: rest)) : Go w l R n0 Y h k n pc Ls (.int y :: .int x :: rest) := by
  subst hp; exact Go.plain (fun T t H K => XS.ior H C.hx rfl (C.d hd) rfl K) G
theorem g_ixor (C : Cx w Z own bytes ml rt nm R n0 Q Y) {x y : Int32} (hd : decode bytes pc = .ok (.ixor, 1)) (hp : pc + 1 = pc') (G : Go w l R n0 Y h k n pc' Ls (.int (x ^^^ y) :: rest)) : Go w l R n0 Y h k n pc Ls (.int y :: .int x :: rest) := by
  subst hp; exact Go.plain (fun T t H K => XS.ixor H C.hx rfl (C.d hd) rfl K) G
theorem g_ishl (C : Cx w Z own bytes ml rt nm R n0 Q Y) {x y : Int32} (hd : decode bytes pc = .ok (.ishl, 1)) (hp : pc + 1 = pc') (G : Go w l R n0 Y h k n pc' Ls (.int (x <<< (y &&& 31)) :: rest)) : Go w l R n0 Y h k n pc Ls (.int y :: .int x :: rest) := by
  subst hp; exact Go.plain (fun T t H K => XS.ishl H C.hx rfl (C.d hd) rfl K) G
theorem g_ishr (C : Cx w Z own bytes ml rt nm R n0 Q Y) {x y : Int32} (hd : decode bytes pc = .ok (.ishr, 1)) (hp : pc + 1 = pc') (G : Go w l R n0 Y h k n pc' Ls (.int (x >>> (y &&& 31)) :: rest)) : Go w l R n0 Y h k n pc Ls (.int y :: .int x :: rest) := by
  subst hp; exact Go.plain (fun T t H K => XS.ishr H C.hx rfl (C.d hd) rfl K) G
theorem g_iushr (C : Cx w Z own bytes ml rt nm R n0 Q Y) {x y : Int32} (hd : decode bytes pc = .ok (.iushr, 1)) (hp : pc + 1 = pc') (G : Go w l R n0 Y h k n pc' Ls (.int ((x.toUInt32 >>> (y &&& 31).toUInt32).toInt32) :: rest)) : Go w l R n0 Y h k n pc Ls (.int y :: .int x :: rest) := by
  subst hp; exact Go.plain (fun T t H K => XS.iushr H C.hx rfl (C.d hd) rfl K) G
theorem g_ladd (C : Cx w Z own bytes ml rt nm R n0 Q Y) {x y : Int64} (hd : decode bytes pc = .ok (.ladd, 1)) (hp : pc + 1 = pc') (G : Go w l R n0 Y h k n pc' Ls (.long (x + y) :: rest)) : Go w l R n0 Y h k n pc Ls (.long y :: .long x :: rest) := by
  subst hp; exact Go.plain (fun T t H K => XS.ladd H C.hx rfl (C.d hd) rfl K) G
theorem g_lsub (C : Cx w Z own bytes ml rt nm R n0 Q Y) {x y : Int64} (hd : decode bytes pc = .ok (.lsub, 1)) (hp : pc + 1 = pc') (G : Go w l R n0 Y h k n pc' Ls (.long (x - y) :: rest)) : Go w l R n0 Y h k n pc Ls (.long y :: .long x :: rest) := by
  subst hp; exact Go.plain (fun T t H K => XS.lsub H C.hx rfl (C.d hd) rfl K) G
theorem g_lmul (C : Cx w Z own bytes ml rt nm R n0 Q Y) {x y : Int64} (hd : decode bytes pc = .ok (.lmul, 1)) (hp : pc + 1 = pc') (G : Go w l R n0 Y h k n pc' Ls (.long (x * y) :: rest)) : Go w l R n0 Y h k n pc Ls (.long y :: .long x :: rest) := by
  subst hp; exact Go.plain (fun T t H K => XS.lmul H C.hx rfl (C.d hd) rfl K) G
theorem g_land (C : Cx w Z own bytes ml rt nm R n0 Q Y) {x y : Int64} (hd : decode bytes pc = .ok (.land, 1)) (hp : pc + 1 = pc') (G : Go w l R n0 Y h k n pc' Ls (.long (x &&& y) :: rest)) : Go w l R n0 Y h k n pc Ls (.long y :: .long x :: rest) := by
  subst hp; exact Go.plain (fun T t H K => XS.land H C.hx rfl (C.d hd) rfl K) G
theorem g_lor (C : Cx w Z own bytes ml rt nm R n0 Q Y) {x y : Int64} (hd : decode bytes pc = .ok (.lor, 1)) (hp : pc + 1 = pc') (G : Go w l R n0 Y h k n pc' Ls (.long (x ||| y) :: rest)) : Go w l R n0 Y h k n pc Ls (.long y :: .long x :: rest) := by
  subst hp; exact Go.plain (fun T t H K => XS.lor H C.hx rfl (C.d hd) rfl K) G
theorem g_lxor (C : Cx w Z own bytes ml rt nm R n0 Q Y) {x y : Int64} (hd : decode bytes pc = .ok (.lxor, 1)) (hp : pc + 1 = pc') (G : Go w l R n0 Y h k n pc' Ls (.long (x ^^^ y) :: rest)) : Go w l R n0 Y h k n pc Ls (.long y :: .long x :: rest) := by
  subst hp; exact Go.plain (fun T t H K => XS.lxor H C.hx rfl (C.d hd) rfl K) G
theorem g_lshl (C : Cx w Z own bytes ml rt nm R n0 Q Y) {x : Int64} {y : Int32} (hd : decode bytes pc = .ok (.lshl, 1)) (hp : pc + 1 = pc') (G : Go w l R n0 Y h k n pc' Ls (.long (x <<< (y &&& 0x3f).toInt64) :: rest)) : Go w l R n0 Y h k n pc Ls (.int y :: .long x :: rest) := by
  subst hp; exact Go.plain (fun T t H K => XS.lshl H C.hx rfl (C.d hd) rfl K) G
theorem g_lshr (C : Cx w Z own bytes ml rt nm R n0 Q Y) {x : Int64} {y : Int32} (hd : decode bytes pc = .ok (.lshr, 1)) (hp : pc + 1 = pc') (G : Go w l R n0 Y h k n pc' Ls (.long (x >>> (y &&& 0x3f).toInt64) :: rest)) : Go w l R n0 Y h k n pc Ls (.int y :: .long x :: rest) := by
  subst hp; exact Go.plain (fun T t H K => XS.lshr H C.hx rfl (C.d hd) rfl K) G
theorem g_lushr (C : Cx w Z own bytes ml rt nm R n0 Q Y) {x : Int64} {y : Int32} (hd : decode bytes pc = .ok (.lushr, 1)) (hp : pc + 1 = pc') (G : Go w l R n0 Y h k n pc' Ls (.long ((x.toUInt64 >>> (y &&& 0x3f).toInt64.toUInt64).toInt64) :: rest)) : Go w l R n0 Y h k n pc Ls (.int y :: .long x :: rest) := by
  subst hp; exact Go.plain (fun T t H K => XS.lushr H C.hx rfl (C.d hd) rfl K) G
theorem g_idiv (C : Cx w Z own bytes ml rt nm R n0 Q Y) {x y : Int32} (hd : decode bytes pc = .ok (.idiv, 1)) (hp : pc + 1 = pc') (hy : y ≠ 0) (G : Go w l R n0 Y h k n pc' Ls (.int (x / y) :: rest)) : Go w l R n0 Y h k n pc Ls (.int y :: .int x :: rest) := by
  subst hp; exact Go.plain (fun T t H K => XS.idiv H C.hx rfl (C.d hd) rfl hy K) G
theorem g_irem (C : Cx w Z own bytes ml rt nm R n0 Q Y) {x y : Int32} (hd : decode bytes pc = .ok (.irem, 1)) (hp : pc + 1 = pc') (hy : y ≠ 0) (G : Go w l R n0 Y h k n pc' Ls (.int (x % y) :: rest)) : Go w l R n0 Y h k n pc Ls (.int y :: .int x :: rest) := by
  subst hp; exact Go.stand (fun T t locs X hT K => iremM X C.hx rfl (C.d hd) rfl hy K) G
theorem g_lcmp (C : Cx w Z own bytes ml rt nm R n0 Q Y) {x y : Int64} (hd : decode bytes pc = .ok (.lcmp, 1)) (hp : pc + 1 = pc') (G : Go w l R n0 Y h k n pc' Ls (.int (lcmpW x y) :: rest)) : Go w l R n0 Y h k n pc Ls (.long y :: .long x :: rest) := by
  subst hp; exact Go.plain (fun T t H K => XS.lcmp H C.hx rfl (C.d hd) rfl K) G
theorem g_ineg (C : Cx w Z own bytes ml rt nm R n0 Q Y) {v : Int32} (hd : decode bytes pc = .ok (.ineg, 1)) (hp : pc + 1 = pc') (G : Go w l R n0 Y h k n pc' Ls (.int (-v) :: rest)) : Go w l R n0 Y h k n pc Ls (.int v :: rest) := by
  subst hp; exact Go.plain (fun T t H K => XS.ineg H C.hx rfl (C.d hd) rfl K) G
theorem g_lneg (C : Cx w Z own bytes ml rt nm R n0 Q Y) {v : Int64} (hd : decode bytes pc = .ok (.lneg, 1)) (hp : pc + 1 = pc') (G : Go w l R n0 Y h k n pc' Ls (.long (-v) :: rest)) : Go w l R n0 Y h k n pc Ls (.long v :: rest) := by
  subst hp; exact Go.plain (fun T t H K => XS.lneg H C.hx rfl (C.d hd) rfl K) G
theorem g_i2l (C : Cx w Z own bytes ml rt nm R n0 Q Y) {v : Int32} (hd : decode bytes pc = .ok (.i2l, 1)) (hp : pc + 1 = pc') (G : Go w l R n0 Y h k n pc' Ls (.long (v.toInt64) :: rest)) : Go w l R n0 Y h k n pc Ls (.int v :: rest) := by
  subst hp; exact Go.plain (fun T t H K => XS.i2l H C.hx rfl (C.d hd) rfl K) G
theorem g_l2i (C : Cx w Z own bytes ml rt nm R n0 Q Y) {v : Int64} (hd : decode bytes pc = .ok (.l2i, 1)) (hp : pc + 1 = pc') (G : Go w l R n0 Y h k n pc' Ls (.int (v.toInt32) :: rest)) : Go w l R n0 Y h k n pc Ls (.long v :: rest) := by
  subst hp; exact Go.plain (fun T t H K => XS.l2i H C.hx rfl (C.d hd) rfl K) G
theorem g_i2b (C : Cx w Z own bytes ml rt nm R n0 Q Y) {v : Int32} (hd : decode bytes pc = .ok (.i2b, 1)) (hp : pc + 1 = pc') (G : Go w l R n0 Y h k n pc' Ls (.int (v.toInt8.toInt32) :: rest)) : Go w l R n0 Y h k n pc Ls (.int v :: rest) := by
  subst hp; exact Go.plain (fun T t H K => XS.i2b H C.hx rfl (C.d hd) rfl K) G
theorem g_i2s (C : Cx w Z own bytes ml rt nm R n0 Q Y) {v : Int32} (hd : decode bytes pc = .ok (.i2s, 1)) (hp : pc + 1 = pc') (G : Go w l R n0 Y h k n pc' Ls (.int (v.toInt16.toInt32) :: rest)) : Go w l R n0 Y h k n pc Ls (.int v :: rest) := by
  subst hp; exact Go.plain (fun T t H K => XS.i2s H C.hx rfl (C.d hd) rfl K) G
theorem g_i2c (C : Cx w Z own bytes ml rt nm R n0 Q Y) {v : Int32} (hd : decode bytes pc = .ok (.i2c, 1)) (hp : pc + 1 = pc') (G : Go w l R n0 Y h k n pc' Ls (.int (v.toUInt32.toUInt16.toUInt32.toInt32) :: rest)) : Go w l R n0 Y h k n pc Ls (.int v :: rest) := by
  subst hp; exact Go.plain (fun T t H K => XS.i2c H C.hx rfl (C.d hd) rfl K) G
theorem g_dup (C : Cx w Z own bytes ml rt nm R n0 Q Y) {x : Value} (hd : decode bytes pc = .ok (.dup, 1)) (hp : pc + 1 = pc') (hc : x.category = 1) (G : Go w l R n0 Y h k n pc' Ls (x :: x :: rest)) : Go w l R n0 Y h k n pc Ls (x :: rest) := by
  subst hp; exact Go.plain (fun T t H K => XS.dup H C.hx rfl (C.d hd) rfl hc K) G
theorem g_dupX1 (C : Cx w Z own bytes ml rt nm R n0 Q Y) {x y : Value} (hd : decode bytes pc = .ok (.dup_x1, 1)) (hp : pc + 1 = pc') (hc : x.category = 1) (hc2 : y.category = 1) (G : Go w l R n0 Y h k n pc' Ls (x :: y :: x :: rest)) : Go w l R n0 Y h k n pc Ls (x :: y :: rest) := by
  subst hp; exact Go.plain (fun T t H K => XS.dupX1 H C.hx rfl (C.d hd) rfl hc hc2 K) G
theorem g_pop (C : Cx w Z own bytes ml rt nm R n0 Q Y) {x : Value} (hd : decode bytes pc = .ok (.pop, 1)) (hp : pc + 1 = pc') (hc : x.category = 1) (G : Go w l R n0 Y h k n pc' Ls (rest)) : Go w l R n0 Y h k n pc Ls (x :: rest) := by
  subst hp; exact Go.plain (fun T t H K => XS.pop H C.hx rfl (C.d hd) rfl hc K) G
theorem g_iinc (C : Cx w Z own bytes ml rt nm R n0 Q Y) {i : Nat} {d : Int} {x : Int32} (hd : decode bytes pc = .ok (.iinc i d, 3)) (hp : pc + 3 = pc') (hl : Ls[i]? = some (.val (.int x))) {z : Int32} (hz : x + Int32.ofInt d = z) (hl' : storeLocals Ls i (.int z) = some Ls') (G : Go w l R n0 Y h k n pc' Ls' st) : Go w l R n0 Y h k n pc Ls st := by
  subst hp hz; exact Go.plain (fun T t H K => XS.iinc H C.hx rfl (C.d hd) hl hl' K) G
theorem g_goto (C : Cx w Z own bytes ml rt nm R n0 Q Y) {o : Int} (hd : decode bytes pc = .ok (.goto o, 3)) (ho : 0 ≤ (pc : Int) + o) (hp : ((pc : Int) + o).toNat = pc') (G : Go w l R n0 Y h k n pc' Ls st) : Go w l R n0 Y h k n pc Ls st :=
  Go.plain (fun T t H K => XS.goto H C.hx rfl (pc0 := pc) rfl (C.d hd) ho hp K) G
theorem g_icmp_lt (C : Cx w Z own bytes ml rt nm R n0 Q Y) {o : Int} {x y : Int32} {pcN : Nat} (hd : decode bytes pc = .ok (.if_icmp .lt o, 3)) (ho : 0 ≤ (pc : Int) + o) (hp : ((pc : Int) + o).toNat = pc') (hq : pc + 3 = pcN) (G : x < y → Go w l R n0 Y h k n pc' Ls rest) (G' : ¬ x < y → Go w l R n0 Y h k n pcN Ls rest) : Go w l R n0 Y h k n pc Ls (.int y :: .int x :: rest) := by
  subst hq
  by_cases q : x < y
  · exact Go.plain (fun T t H K => XS.icmpYes H C.hx rfl (pc0 := pc) rfl (C.d hd) rfl (tlt q).1 ho hp K) (G q)
  · exact Go.plain (fun T t H K => XS.icmpNo H C.hx rfl (C.d hd) rfl (flt q).1 K) (G' q)
theorem g_if_lt (C : Cx w Z own bytes ml rt nm R n0 Q Y) {o : Int} {x : Int32} {pcN : Nat} (hd : decode bytes pc = .ok (.ifCond .lt o, 3)) (ho : 0 ≤ (pc : Int) + o) (hp : ((pc : Int) + o).toNat = pc') (hq : pc + 3 = pcN) (G : x < 0 → Go w l R n0 Y h k n pc' Ls rest) (G' : ¬ x < 0 → Go w l R n0 Y h k n pcN Ls rest) : Go w l R n0 Y h k n pc Ls (.int x :: rest) := by
  subst hq
  by_cases q : x < 0
  · exact Go.plain (fun T t H K => XS.ifYes H C.hx rfl (pc0 := pc) rfl (C.d hd) rfl ((if0 _ _).trans (tlt q).1) ho hp K) (G q)
  · exact Go.plain (fun T t H K => XS.ifNo H C.hx rfl (C.d hd) rfl ((if0 _ _).trans (flt q).1) K) (G' q)
theorem g_icmp_ge (C : Cx w Z own bytes ml rt nm R n0 Q Y) {o : Int} {x y : Int32} {pcN : Nat} (hd : decode bytes pc = .ok (.if_icmp .ge o, 3)) (ho : 0 ≤ (pc : Int) + o) (hp : ((pc : Int) + o).toNat = pc') (hq : pc + 3 = pcN) (G : ¬ x < y → Go w l R n0 Y h k n pc' Ls rest) (G' : x < y → Go w l R n0 Y h k n pcN Ls rest) : Go w l R n0 Y h k n pc Ls (.int y :: .int x :: rest) := by
  subst hq
  by_cases q : x < y
  · exact Go.plain (fun T t H K => XS.icmpNo H C.hx rfl (C.d hd) rfl (tlt q).2.1 K) (G' q)
  · exact Go.plain (fun T t H K => XS.icmpYes H C.hx rfl (pc0 := pc) rfl (C.d hd) rfl (flt q).2.1 ho hp K) (G q)
theorem g_if_ge (C : Cx w Z own bytes ml rt nm R n0 Q Y) {o : Int} {x : Int32} {pcN : Nat} (hd : decode bytes pc = .ok (.ifCond .ge o, 3)) (ho : 0 ≤ (pc : Int) + o) (hp : ((pc : Int) + o).toNat = pc') (hq : pc + 3 = pcN) (G : ¬ x < 0 → Go w l R n0 Y h k n pc' Ls rest) (G' : x < 0 → Go w l R n0 Y h k n pcN Ls rest) : Go w l R n0 Y h k n pc Ls (.int x :: rest) := by
  subst hq
  by_cases q : x < 0
  · exact Go.plain (fun T t H K => XS.ifNo H C.hx rfl (C.d hd) rfl ((if0 _ _).trans (tlt q).2.1) K) (G' q)
  · exact Go.plain (fun T t H K => XS.ifYes H C.hx rfl (pc0 := pc) rfl (C.d hd) rfl ((if0 _ _).trans (flt q).2.1) ho hp K) (G q)
theorem g_icmp_gt (C : Cx w Z own bytes ml rt nm R n0 Q Y) {o : Int} {x y : Int32} {pcN : Nat} (hd : decode bytes pc = .ok (.if_icmp .gt o, 3)) (ho : 0 ≤ (pc : Int) + o) (hp : ((pc : Int) + o).toNat = pc') (hq : pc + 3 = pcN) (G : y < x → Go w l R n0 Y h k n pc' Ls rest) (G' : ¬ y < x → Go w l R n0 Y h k n pcN Ls rest) : Go w l R n0 Y h k n pc Ls (.int y :: .int x :: rest) := by
  subst hq
  by_cases q : y < x
  · exact Go.plain (fun T t H K => XS.icmpYes H C.hx rfl (pc0 := pc) rfl (C.d hd) rfl (tlt q).2.2.1 ho hp K) (G q)
  · exact Go.plain (fun T t H K => XS.icmpNo H C.hx rfl (C.d hd) rfl (flt q).2.2.1 K) (G' q)
theorem g_if_gt (C : Cx w Z own bytes ml rt nm R n0 Q Y) {o : Int} {x : Int32} {pcN : Nat} (hd : decode bytes pc = .ok (.ifCond .gt o, 3)) (ho : 0 ≤ (pc : Int) + o) (hp : ((pc : Int) + o).toNat = pc') (hq : pc + 3 = pcN) (G : 0 < x → Go w l R n0 Y h k n pc' Ls rest) (G' : ¬ 0 < x → Go w l R n0 Y h k n pcN Ls rest) : Go w l R n0 Y h k n pc Ls (.int x :: rest) := by
  subst hq
  by_cases q : 0 < x
  · exact Go.plain (fun T t H K => XS.ifYes H C.hx rfl (pc0 := pc) rfl (C.d hd) rfl ((if0 _ _).trans (tlt q).2.2.1) ho hp K) (G q)
  · exact Go.plain (fun T t H K => XS.ifNo H C.hx rfl (C.d hd) rfl ((if0 _ _).trans (flt q).2.2.1) K) (G' q)
theorem g_icmp_le (C : Cx w Z own bytes ml rt nm R n0 Q Y) {o : Int} {x y : Int32} {pcN : Nat} (hd : decode bytes pc = .ok (.if_icmp .le o, 3)) (ho : 0 ≤ (pc : Int) + o) (hp : ((pc : Int) + o).toNat = pc') (hq : pc + 3 = pcN) (G : ¬ y < x → Go w l R n0 Y h k n pc' Ls rest) (G' : y < x → Go w l R n0 Y h k n pcN Ls rest) : Go w l R n0 Y h k n pc Ls (.int y :: .int x :: rest) := by
  subst hq
  by_cases q : y < x
  · exact Go.plain (fun T t H K => XS.icmpNo H C.hx rfl (C.d hd) rfl (tlt q).2.2.2 K) (G' q)
  · exact Go.plain (fun T t H K => XS.icmpYes H C.hx rfl (pc0 := pc) rfl (C.d hd) rfl (flt q).2.2.2 ho hp K) (G q)
theorem g_if_le (C : Cx w Z own bytes ml rt nm R n0 Q Y) {o : Int} {x : Int32} {pcN : Nat} (hd : decode bytes pc = .ok (.ifCond .le o, 3)) (ho : 0 ≤ (pc : Int) + o) (hp : ((pc : Int) + o).toNat = pc') (hq : pc + 3 = pcN) (G : ¬ 0 < x → Go w l R n0 Y h k n pc' Ls rest) (G' : 0 < x → Go w l R n0 Y h k n pcN Ls rest) : Go w l R n0 Y h k n pc Ls (.int x :: rest) := by
  subst hq
  by_cases q : 0 < x
  · exact Go.plain (fun T t H K => XS.ifNo H C.hx rfl (C.d hd) rfl ((if0 _ _).trans (tlt q).2.2.2) K) (G' q)
  · exact Go.plain (fun T t H K => XS.ifYes H C.hx rfl (pc0 := pc) rfl (C.d hd) rfl ((if0 _ _).trans (flt q).2.2.2) ho hp K) (G q)
theorem g_icmp_eq (C : Cx w Z own bytes ml rt nm R n0 Q Y) {o : Int} {x y : Int32} {pcN : Nat} (hd : decode bytes pc = .ok (.if_icmp .eq o, 3)) (ho : 0 ≤ (pc : Int) + o) (hp : ((pc : Int) + o).toNat = pc') (hq : pc + 3 = pcN) (G : x = y → Go w l R n0 Y h k n pc' Ls rest) (G' : ¬ x = y → Go w l R n0 Y h k n pcN Ls rest) : Go w l R n0 Y h k n pc Ls (.int y :: .int x :: rest) := by
  subst hq
  by_cases q : x = y
  · exact Go.plain (fun T t H K => XS.icmpYes H C.hx rfl (pc0 := pc) rfl (C.d hd) rfl (teq q).1 ho hp K) (G q)
  · exact Go.plain (fun T t H K => XS.icmpNo H C.hx rfl (C.d hd) rfl (feq q).1 K) (G' q)
theorem g_if_eq (C : Cx w Z own bytes ml rt nm R n0 Q Y) {o : Int} {x : Int32} {pcN : Nat} (hd : decode bytes pc = .ok (.ifCond .eq o, 3)) (ho : 0 ≤ (pc : Int) + o) (hp : ((pc : Int) + o).toNat = pc') (hq : pc + 3 = pcN) (G : x = 0 → Go w l R n0 Y h k n pc' Ls rest) (G' : ¬ x = 0 → Go w l R n0 Y h k n pcN Ls rest) : Go w l R n0 Y h k n pc Ls (.int x :: rest) := by
  subst hq
  by_cases q : x = 0
  · exact Go.plain (fun T t H K => XS.ifYes H C.hx rfl (pc0 := pc) rfl (C.d hd) rfl ((if0 _ _).trans (teq q).1) ho hp K) (G q)
  · exact Go.plain (fun T t H K => XS.ifNo H C.hx rfl (C.d hd) rfl ((if0 _ _).trans (feq q).1) K) (G' q)
theorem g_icmp_ne (C : Cx w Z own bytes ml rt nm R n0 Q Y) {o : Int} {x y : Int32} {pcN : Nat} (hd : decode bytes pc = .ok (.if_icmp .ne o, 3)) (ho : 0 ≤ (pc : Int) + o) (hp : ((pc : Int) + o).toNat = pc') (hq : pc + 3 = pcN) (G : ¬ x = y → Go w l R n0 Y h k n pc' Ls rest) (G' : x = y → Go w l R n0 Y h k n pcN Ls rest) : Go w l R n0 Y h k n pc Ls (.int y :: .int x :: rest) := by
  subst hq
  by_cases q : x = y
  · exact Go.plain (fun T t H K => XS.icmpNo H C.hx rfl (C.d hd) rfl (teq q).2 K) (G' q)
  · exact Go.plain (fun T t H K => XS.icmpYes H C.hx rfl (pc0 := pc) rfl (C.d hd) rfl (feq q).2 ho hp K) (G q)
theorem g_if_ne (C : Cx w Z own bytes ml rt nm R n0 Q Y) {o : Int} {x : Int32} {pcN : Nat} (hd : decode bytes pc = .ok (.ifCond .ne o, 3)) (ho : 0 ≤ (pc : Int) + o) (hp : ((pc : Int) + o).toNat = pc') (hq : pc + 3 = pcN) (G : ¬ x = 0 → Go w l R n0 Y h k n pc' Ls rest) (G' : x = 0 → Go w l R n0 Y h k n pcN Ls rest) : Go w l R n0 Y h k n pc Ls (.int x :: rest) := by
  subst hq
  by_cases q : x = 0
  · exact Go.plain (fun T t H K => XS.ifNo H C.hx rfl (C.d hd) rfl ((if0 _ _).trans (teq q).2) K) (G' q)
  · exact Go.plain (fun T t H K => XS.ifYes H C.hx rfl (pc0 := pc) rfl (C.d hd) rfl ((if0 _ _).trans (feq q).2) ho hp K) (G q)
theorem g_ifnullY (C : Cx w Z own bytes ml rt nm R n0 Q Y) {o : Int} (hd : decode bytes pc = .ok (.ifnull o, 3)) (ho : 0 ≤ (pc : Int) + o) (hp : ((pc : Int) + o).toNat = pc') (G : Go w l R n0 Y h k n pc' Ls rest) : Go w l R n0 Y h k n pc Ls (.null :: rest) := Go.plain (fun T t H K => XS.ifnullYes H C.hx rfl (pc0 := pc) rfl (C.d hd) rfl ho hp K) G
theorem g_ifnullN (C : Cx w Z own bytes ml rt nm R n0 Q Y) {o : Int} {b : Addr} (hd : decode bytes pc = .ok (.ifnull o, 3)) (hp : pc + 3 = pc') (G : Go w l R n0 Y h k n pc' Ls rest) : Go w l R n0 Y h k n pc Ls (.ref b :: rest) := by subst hp; exact Go.plain (fun T t H K => XS.ifnullNo H C.hx rfl (C.d hd) rfl K) G
theorem g_ifnonnullY (C : Cx w Z own bytes ml rt nm R n0 Q Y) {o : Int} {b : Addr} (hd : decode bytes pc = .ok (.ifnonnull o, 3)) (ho : 0 ≤ (pc : Int) + o) (hp : ((pc : Int) + o).toNat = pc') (G : Go w l R n0 Y h k n pc' Ls rest) : Go w l R n0 Y h k n pc Ls (.ref b :: rest) := Go.plain (fun T t H K => XS.ifnonnullYes H C.hx rfl (pc0 := pc) rfl (C.d hd) rfl ho hp K) G
theorem g_ifnonnullN (C : Cx w Z own bytes ml rt nm R n0 Q Y) {o : Int} (hd : decode bytes pc = .ok (.ifnonnull o, 3)) (hp : pc + 3 = pc') (G : Go w l R n0 Y h k n pc' Ls rest) : Go w l R n0 Y h k n pc Ls (.null :: rest) := by subst hp; exact Go.plain (fun T t H K => XS.ifnonnullNo H C.hx rfl (C.d hd) rfl K) G
theorem g_acmp (C : Cx w Z own bytes ml rt nm R n0 Q Y) {cd : ACond} {o : Int} {x y : Value} (h1 : x.isRef = true) (h2 : y.isRef = true) (same : Bool) (hd : decode bytes pc = .ok (.if_acmp cd o, 3)) (ho : 0 ≤ (pc : Int) + o) (hs : decide (x = y) = same) (hp : pc' = if acV cd same = true then ((pc : Int) + o).toNat else pc + 3) (G : Go w l R n0 Y h k n pc' Ls rest) : Go w l R n0 Y h k n pc Ls (y :: x :: rest) :=
  Go.stand (fun T t locs X hT K => Jvm.RoadKit.acmp (g := mkF w.m pc Ls (y :: x :: rest)) X C.hx rfl h1 h2 (pc0 := pc) rfl (C.d hd) rfl hs ho hp K) G
theorem g_ldcI (C : Cx w Z own bytes ml rt nm R n0 Q Y) {i : Nat} {v : Int32} (w1 : (Jvm.Cond.constant own i v).before a0 Z = true) (hd : decode bytes pc = .ok (.ldc i, 2)) (hp : pc + 2 = pc') (G : Go w l R n0 Y h k n pc' Ls (.int v :: st)) : Go w l R n0 Y h k n pc Ls st := by
  subst hp; exact Go.stand (fun T t locs X hT K => X.ldcInt C.hx C.hown (mvT C.hZ w1) (g := mkF w.m pc Ls st) rfl (C.d hd) _ K) G
theorem g_ldc2J (C : Cx w Z own bytes ml rt nm R n0 Q Y) {i : Nat} {v : Int64} (w1 : (Jvm.Cond.constantLong own i v).before a0 Z = true) (hd : decode bytes pc = .ok (.ldc2_w i, 3)) (hp : pc + 3 = pc') (G : Go w l R n0 Y h k n pc' Ls (.long v :: st)) : Go w l R n0 Y h k n pc Ls st := by
  subst hp; exact Go.stand (fun T t locs X hT K => X.ldc2Long C.hx C.hown (mvT C.hZ w1) (g := mkF w.m pc Ls st) rfl (C.d hd) _ K) G
theorem Go.leave {v : Option Value} (L : Lv w R n0 Q Y) (hv : w.meth.sig.returnType = none → v = none) (hlk : w.meth.locks = false) (hQ : Q v h) (hc : k ≤ R.cells) (hs : n ≤ R.slots)
    (f : ∀ (T : State) (locs : List Loc) (fs : List Frame), Stand w.p l w.e R w.s w.m w.as w.below w.meth w.c T locs k n → (∀ (f : JFrame) (acts : List Action), f.method = w.m → f.locked = none → f.entered = [] → (doReturn w.e (T.setTop f) acts v).1 = T.setFrames fs) → Steps w.p.tables w.e w.below (T.setTop (mkF w.m pc Ls st)) (T.setFrames fs)) : Go w l R n0 Y h k n pc Ls st := by
  intro T locs X hT hn N
  obtain ⟨fs, hr, hrun, hended, hW, hsame⟩ := X.leave (v := v) hv hlk
  exact ⟨_, _, f T locs fs X hr, hrun, hended, L T fs locs k n v hW hsame N (by rw [hT]; exact hn.2) hc hs (by rw [hT]; exact hQ)⟩
theorem g_ret (C : Cx w Z own bytes ml rt nm R n0 Q Y) (hr : rt = none) (hd : decode bytes pc = .ok (.return_, 1)) (hQ : Q none h) (hc : k ≤ R.cells) (hs : n ≤ R.slots) : Go w l R n0 Y h k n pc Ls [] :=
  Go.leave C.lv (v := none) (fun _ => rfl) C.locks hQ hc hs (fun T locs fs X hl => X.returnOut C.hx (C.ret.trans hr) (C.d hd) hl)
theorem g_retI (C : Cx w Z own bytes ml rt nm R n0 Q Y) (hr : rt = some .int) (hd : decode bytes pc = .ok (.ireturn, 1)) {z : Int32} (hQ : Q (some (.int z)) h) (hc : k ≤ R.cells) (hs : n ≤ R.slots) : Go w l R n0 Y h k n pc Ls [.int z] :=
  Go.leave C.lv (v := some (.int z)) (fun q => by rw [C.ret, hr] at q; cases q) C.locks hQ hc hs (fun T locs fs X hl => X.ireturnOut C.hx (t := .int) (C.ret.trans hr) rfl (Or.inl rfl) (C.d hd) hl)
theorem g_retN (C : Cx w Z own bytes ml rt nm R n0 Q Y) {t : FieldType} (hr : rt = some t) (ht : t = .boolean ∨ t = .byte ∨ t = .char ∨ t = .short) (hd : decode bytes pc = .ok (.ireturn, 1)) {z : Int32} (hQ : Q (some (.int (nar t z))) h) (hc : k ≤ R.cells) (hs : n ≤ R.slots) : Go w l R n0 Y h k n pc Ls (.int z :: rest) :=
  Go.leave C.lv (v := some (.int (nar t z))) (fun q => by rw [C.ret, hr] at q; cases q) C.locks hQ hc hs (fun T locs fs X hl => retN X C.hx (C.ret.trans hr) ht (C.d hd) hl)
theorem g_retA (C : Cx w Z own bytes ml rt nm R n0 Q Y) {t : FieldType} {v : Value} (hv : v.isRef = true) (hr : rt = some t) (ht : t.isReference = true) (hd : decode bytes pc = .ok (.areturn, 1)) (hQ : Q (some v) h) (hc : k ≤ R.cells) (hs : n ≤ R.slots) : Go w l R n0 Y h k n pc Ls [v] :=
  Go.leave C.lv (v := some v) (fun q => by rw [C.ret, hr] at q; cases q) C.locks hQ hc hs (fun T locs fs X hl => X.areturnOut C.hx hv (C.ret.trans hr) ht (C.d hd) hl)
theorem g_retL (C : Cx w Z own bytes ml rt nm R n0 Q Y) (hr : rt = some .long) (hd : decode bytes pc = .ok (.lreturn, 1)) {z : Int64} (hQ : Q (some (.long z)) h) (hc : k ≤ R.cells) (hs : n ≤ R.slots) : Go w l R n0 Y h k n pc Ls (.long z :: rest) :=
  Go.leave C.lv (v := some (.long z)) (fun q => by rw [C.ret, hr] at q; cases q) C.locks hQ hc hs (fun T locs fs X hl => by
    have hx := C.hx
    have hd' := C.d hd
    have hr' := C.ret.trans hr
    jvm_step X.here [X.here.top, hx, hd', X.method', hr', narrow]
    first | (intro acts; rw [hl _ acts rfl rfl rfl]) | rw [hl _ _ rfl rfl rfl]
    exact Steps.refl _)
/-- an array by a function of its places -/
def Arf (Z : State) (h : Heap) (a : Addr) (ad : String) (ty : FieldType) (z : Int32) (f : Nat → Value) : Prop := Exa Z h a ad ∧ ∃ c : Cell, Arr Z h a c ty ∧ c.slots.size = z.toNatClampNeg ∧ ¬ z < 0 ∧ ∀ i, i < c.slots.size → c.slots[i]? = some (f i) ∧ fits ty (f i) = true
def upd (f : Nat → Value) (j : Nat) (v : Value) : Nat → Value := fun i => if i = j then v else f i
theorem upd_same (f : Nat → Value) (j : Nat) (v : Value) : upd f j v j = v := by simp [upd]
theorem upd_other {f : Nat → Value} {j i : Nat} {v : Value} (q : i ≠ j) : upd f j v i = f i := by simp [upd, q]
variable {a b : Addr} {ad : String} {ty : FieldType} {z : Int32} {f : Nat → Value} {h' : Heap}
theorem Arf.lt (F : Arf Z h a ad ty z f) : a < h.size := F.1.lt
theorem Arf.exa (F : Arf Z h a ad ty z f) : Exa Z h a ad := F.1
theorem Arf.ext (F : Arf Z h a ad ty z f) (E : Ext h h') : Arf Z h' a ad ty z f := by
  obtain ⟨e, c, A, r⟩ := F; exact ⟨e.ext E, c, A.ext E, r⟩
theorem Arf.other {sl : Nat} {v : Value} (F : Arf Z h b ad ty z f) (W : Wr h h' a sl v) (q : b ≠ a) : Arf Z h' b ad ty z f := by
  obtain ⟨e, c, A, r⟩ := F; exact ⟨e.wr W, c, A.other W q, r⟩
theorem Arf.keep {ws : List Addr} (F : Arf Z h a ad ty z f) (K : Keep h h' ws) (q : a ∉ ws) : Arf Z h' a ad ty z f := by
  obtain ⟨e, c, A, r⟩ := F; exact ⟨e.keep K, c, ⟨K.2.1 _ _ A.1 q, A.2⟩, r⟩
theorem Arf.nn (F : Arf Z h a ad ty z f) : ¬ z < 0 := by obtain ⟨-, c, -, -, r, -⟩ := F; exact r
theorem Arf.fits (F : Arf Z h a ad ty z f) {i : Nat} (q : i < z.toNatClampNeg) : fits ty (f i) = true := by
  obtain ⟨-, c, -, S, -, r⟩ := F; exact (r i (by rw [S]; exact q)).2
theorem Arf.congr {g : Nat → Value} (F : Arf Z h a ad ty z f) (q : ∀ i, i < z.toNatClampNeg → f i = g i) : Arf Z h a ad ty z g := by
  obtain ⟨e, c, A, S, N, r⟩ := F; exact ⟨e, c, A, S, N, fun i hi => by rw [← q i (S ▸ hi)]; exact r i hi⟩
theorem Arf.set {j : Int32} {v : Value} (F : Arf Z h a ad ty z f) (W : Wr h h' a j.toNatClampNeg v) (hv : Jvm.fits ty v = true) (hj : ¬ j < 0) : Arf Z h' a ad ty z (upd f j.toNatClampNeg v) := by
  obtain ⟨e, c, A, S, N, r⟩ := F
  refine ⟨e.wr W, _, A.same W, by rw [sz_set]; exact S, N, fun i hi => ?_⟩
  rw [sz_set] at hi
  by_cases q : i = j.toNatClampNeg
  · subst q; refine ⟨?_, by rw [upd_same]; exact hv⟩
    rw [upd_same]; simp [Cell.setSlot, hi]
  · rw [upd_other q]; refine ⟨?_, (r i hi).2⟩
    rw [← (r i hi).1]; exact Array.getElem?_setIfInBounds_ne (Ne.symm q)
theorem nat_lt {j z : Int32} (h1 : ¬ j < 0) (h2 : j < z) : j.toNatClampNeg < z.toNatClampNeg := by
  rw [Int32.lt_iff_toInt_lt] at h1 h2
  have : (0 : Int32).toInt = 0 := rfl
  simp only [Int32.toNatClampNeg]; omega
theorem Arf.arv (F : Arf Z h a ad ty z f) (d : Value) : ∃ kc, Arv Z h a kc ty z ((List.range z.toNatClampNeg).map f) d := by
  obtain ⟨e, c, A, S, N, r⟩ := F
  refine ⟨c.cls, c, A, rfl, S, N, fun i hi => ?_, fun i hi => ?_⟩
  · rw [(r i hi).1]; rw [S] at hi; simp [List.getD, hi]
  · have q := (r i hi).2; rw [S] at hi; simpa [List.getD, hi] using q
theorem Arf.of_arv {kc : ClassId} {vs : List Value} {d : Value} (e : Exa Z h a ad) (V : Arv Z h a kc ty z vs d) : Arf Z h a ad ty z (fun i => vs.getD i d) := by
  obtain ⟨c, A, -, S, N, H, G⟩ := V
  exact ⟨e, c, A, S, N, fun i hi => ⟨H i hi, G i hi⟩⟩
theorem g_new (C : Cx w Z own bytes ml rt nm R n0 Q Y) {i : Nat} {cl : String} {m : Nat} (w1 : (Jvm.Cond.classLink own i cl).before a0 Z = true) (w2 : (Jvm.Cond.instantiable cl m).before a0 Z = true) (w3 : (Jvm.Cond.initialized cl).before a0 Z = true) (hd : decode bytes pc = .ok (.new i, 3)) (hp : pc + 3 = pc') {k' n' : Nat} (hk : k + 1 = k') (hn : n + m = n') (hc : k' ≤ R.cells) (hs : n' ≤ R.slots)
    (G : ∀ (h' : Heap) (b : Addr), Ext h h' → h.size ≤ b → n0 ≤ b → Exa Z h' b cl → (∀ {O nm d : String} {ty : FieldType}, Laid Z a0 cl O nm d → parseFieldDescriptor d = some ty → Fld Z h' b O nm d (defaultValue ty)) → Go w l R n0 Y h' k' n' pc' Ls (.ref b :: st)) : Go w l R n0 Y h k n pc Ls st := by
  subst hp hk hn
  intro T locs X hT hn N
  obtain ⟨T', h', X', e', E, A, D, -, s'⟩ := newO X C.hx C.hZ C.hown w1 w2 w3 hT (g := mkF w.m pc Ls st) rfl (C.d hd) hc hs
  obtain ⟨s₂, o, h1, h2⟩ := G h' _ E (Nat.le_refl _) hn.1 A D T' locs X' e' (own_grow hn E.1) N
  exact ⟨s₂, o, s' _ h1, h2⟩
theorem g_newarr (C : Cx w Z own bytes ml rt nm R n0 Q Y) {aty : ArrayType} {ad : String} {z : Int32} {cap : Nat} (w1 : (Jvm.Cond.arrayClass (newarray.typeOf aty)).before a0 Z = true) (hd : decode bytes pc = .ok (.newarray aty, 2)) (hp : pc + 2 = pc') (had : "[" ++ (newarray.typeOf aty).toString = ad) (hz : ¬ z < 0) (hcap : z.toNatClampNeg ≤ cap) (hb : cap * 8 ≤ 536870912) {k' n' : Nat} (hk : k + 1 = k') (hn : n + cap = n') (hc : k' ≤ R.cells) (hs : n' ≤ R.slots) (hfit : Jvm.fits (newarray.typeOf aty) (defaultValue (newarray.typeOf aty)) = true)
    (G : ∀ (h' : Heap) (b : Addr), Ext h h' → h.size ≤ b → n0 ≤ b → Arf Z h' b ad (newarray.typeOf aty) z (fun _ => defaultValue (newarray.typeOf aty)) → Go w l R n0 Y h' k' n' pc' Ls (.ref b :: rest)) : Go w l R n0 Y h k n pc Ls (.int z :: rest) := by
  subst hp hk hn
  intro T locs X hT hn N
  obtain ⟨T', h', cA, X', e', E, A, Ex, s'⟩ := newPE X C.hx C.hZ w1 hT (g := mkF w.m pc Ls (.int z :: rest)) rfl (C.d hd) rfl hz hcap hb hc hs had
  obtain ⟨s₂, o, h1, h2⟩ := G h' _ E (Nat.le_refl _) hn.1 ⟨Ex, _, A, sz_new _ _ _, hz, fun i hi => ⟨by rw [sz_new] at hi; simp [newA, hi], hfit⟩⟩ T' locs X' e' (own_grow hn E.1) N
  exact ⟨s₂, o, s' _ h1, h2⟩
theorem g_getF (C : Cx w Z own bytes ml rt nm R n0 Q Y) {R0 O nf d host : String} {i : Nat} {v : Value} (w1 : (Jvm.Cond.fieldLink own i R0 nf d).before a0 Z = true ∨ (Jvm.Cond.fieldLinkNest own i R0 nf d host).before a0 Z = true) (via : Via Z R0 O nf d) (F : Fld Z h a O nf d v) (hd : decode bytes pc = .ok (.getfield i, 3)) (hp : pc + 3 = pc')
    (G : Go w l R n0 Y h k n pc' Ls (v :: rest)) : Go w l R n0 Y h k n pc Ls (.ref a :: rest) := by
  subst hp
  intro T locs X hT hn N
  obtain ⟨T', X', e', s'⟩ := getF X C.hx C.hZ C.hown w1 via hT F (g := mkF w.m pc Ls (.ref a :: rest)) rfl rfl (C.d hd)
  obtain ⟨s₂, o, h1, h2⟩ := G T' locs X' e' hn N
  exact ⟨s₂, o, s' _ h1, h2⟩
theorem g_getS (C : Cx w Z own bytes ml rt nm R n0 Q Y) {R0 O nf d host : String} {i : Nat} {v : Value} (w1 : (Jvm.Cond.fieldLink own i R0 nf d).before a0 Z = true ∨ (Jvm.Cond.fieldLinkNest own i R0 nf d host).before a0 Z = true) (via : Via Z R0 O nf d) (F : Sta Z h O nf d v) (hd : decode bytes pc = .ok (.getstatic i, 3)) (hp : pc + 3 = pc')
    (G : Go w l R n0 Y h k n pc' Ls (v :: st)) : Go w l R n0 Y h k n pc Ls st := by
  subst hp
  intro T locs X hT hn N
  obtain ⟨T', X', e', s'⟩ := getS2 X C.hx C.hZ C.hown w1 via hT F (g := mkF w.m pc Ls st) rfl (C.d hd)
  obtain ⟨s₂, o, h1, h2⟩ := G T' locs X' e' hn N
  exact ⟨s₂, o, s' _ h1, h2⟩
theorem g_putF (C : Cx w Z own bytes ml rt nm R n0 Q Y) {R0 O nf d host cl : String} {i kk : Nat} {ty : FieldType} {v old : Value} (w1 : (Jvm.Cond.fieldLink own i R0 nf d).before a0 Z = true ∨ (Jvm.Cond.fieldLinkNest own i R0 nf d host).before a0 Z = true) (via : Via Z R0 O nf d) (F : Fld Z h a O nf d old) (E : Exa Z h a cl) (L : (Jvm.Cond.lays cl O nf d).before a0 Z = true ∨ ((Jvm.Cond.laysFinal cl O nf d).before a0 Z = true ∧ own = O ∧ nm = "<init>")) (wi : (Jvm.Cond.instantiable cl kk).before a0 Z = true)
    (hty : parseFieldDescriptor d = some ty) (hnr : narrow ty v = v) (hf : Jvm.fits ty v = true) (hd : decode bytes pc = .ok (.putfield i, 3)) (hp : pc + 3 = pc') (ha : n0 ≤ a)
    (G : ∀ h' : Heap, Wr h h' a (Jvm.RoadKit.slotOf Z O nf d) v → Go w l R n0 Y h' k n pc' Ls rest) : Go w l R n0 Y h k n pc Ls (v :: .ref a :: rest) := by
  subst hp
  intro T locs X hT hn N
  obtain ⟨T', h', X', e', W, s'⟩ := putF X C.hx C.hZ C.hown w1 via hT F E (L.imp id fun q => ⟨q.1, q.2.1, C.name.trans q.2.2⟩) wi hty hnr hf (g := mkF w.m pc Ls (v :: .ref a :: rest)) rfl rfl (C.d hd)
  obtain ⟨s₂, o, h1, h2⟩ := G h' W T' _ X' e' (by rw [W.size]; exact hn) (Fr.snoc X' N ha)
  exact ⟨s₂, o, s' _ h1, h2⟩
theorem g_putFN (C : Cx w Z own bytes ml rt nm R n0 Q Y) {R0 O nf d cl : String} {i kk : Nat} {ty : FieldType} {v v' old : Value} (w1 : (Jvm.Cond.fieldLink own i R0 nf d).before a0 Z = true) (via : Via Z R0 O nf d) (F : Fld Z h a O nf d old) (E : Exa Z h a cl) (L : (Jvm.Cond.lays cl O nf d).before a0 Z = true ∨ ((Jvm.Cond.laysFinal cl O nf d).before a0 Z = true ∧ own = O ∧ nm = "<init>")) (wi : (Jvm.Cond.instantiable cl kk).before a0 Z = true)
    (hty : parseFieldDescriptor d = some ty) (hnr : narrow ty v = v') (hf : Jvm.fits ty v' = true) (hd : decode bytes pc = .ok (.putfield i, 3)) (hp : pc + 3 = pc') (ha : n0 ≤ a)
    (G : ∀ h' : Heap, Wr h h' a (Jvm.RoadKit.slotOf Z O nf d) v' → Go w l R n0 Y h' k n pc' Ls rest) : Go w l R n0 Y h k n pc Ls (v :: .ref a :: rest) := by
  subst hp
  intro T locs X hT hn N
  obtain ⟨T', h', X', e', W, s'⟩ := putFN X C.hx C.hZ C.hown w1 via hT F E (L.imp id fun q => ⟨q.1, q.2.1, C.name.trans q.2.2⟩) wi hty hnr hf (g := mkF w.m pc Ls (v :: .ref a :: rest)) rfl rfl (C.d hd)
  obtain ⟨s₂, o, h1, h2⟩ := G h' W T' _ X' e' (by rw [W.size]; exact hn) (Fr.snoc X' N ha)
  exact ⟨s₂, o, s' _ h1, h2⟩
theorem g_bastore (C : Cx w Z own bytes ml rt nm R n0 Q Y) {j x : Int32} (F : Arf Z h a ad .byte z f) (hj : ¬ j < 0) (hz : j < z) (hd : decode bytes pc = .ok (.bastore, 1)) (hp : pc + 1 = pc') (ha : n0 ≤ a)
    (G : ∀ h' : Heap, Wr h h' a j.toNatClampNeg (.int (nar .byte x)) → Arf Z h' a ad .byte z (upd f j.toNatClampNeg (.int (nar .byte x))) → Go w l R n0 Y h' k n pc' Ls rest) : Go w l R n0 Y h k n pc Ls (.int x :: .int j :: .ref a :: rest) := by
  subst hp
  intro T locs X hT hn N
  obtain ⟨-, c, A, S, -⟩ := id F
  obtain ⟨T', h', X', e', W, s'⟩ := stB X C.hx C.hZ hT A (inb_of S ⟨hj, hz⟩) (g := mkF w.m pc Ls (.int x :: .int j :: .ref a :: rest)) rfl rfl (C.d hd)
  obtain ⟨s₂, o, h1, h2⟩ := G h' W (F.set W (fits_nar_byte _) hj) T' _ X' e' (by rw [W.size]; exact hn) (Fr.snoc X' N ha)
  exact ⟨s₂, o, s' _ h1, h2⟩
theorem g_zastore (C : Cx w Z own bytes ml rt nm R n0 Q Y) {j x : Int32} (F : Arf Z h a ad .boolean z f) (hj : ¬ j < 0) (hz : j < z) (hd : decode bytes pc = .ok (.bastore, 1)) (hp : pc + 1 = pc') (ha : n0 ≤ a)
    (G : ∀ h' : Heap, Wr h h' a j.toNatClampNeg (.int (nar .boolean x)) → Arf Z h' a ad .boolean z (upd f j.toNatClampNeg (.int (nar .boolean x))) → Go w l R n0 Y h' k n pc' Ls rest) : Go w l R n0 Y h k n pc Ls (.int x :: .int j :: .ref a :: rest) := by
  subst hp
  intro T locs X hT hn N
  obtain ⟨-, c, A, S, -⟩ := id F
  obtain ⟨T', h', X', e', W, s'⟩ := stZ X C.hx C.hZ hT A (inb_of S ⟨hj, hz⟩) (g := mkF w.m pc Ls (.int x :: .int j :: .ref a :: rest)) rfl rfl (C.d hd)
  obtain ⟨s₂, o, h1, h2⟩ := G h' W (F.set W (fits_nar_bool _) hj) T' _ X' e' (by rw [W.size]; exact hn) (Fr.snoc X' N ha)
  exact ⟨s₂, o, s' _ h1, h2⟩
theorem g_castore (C : Cx w Z own bytes ml rt nm R n0 Q Y) {j x : Int32} (F : Arf Z h a ad .char z f) (hj : ¬ j < 0) (hz : j < z) (hd : decode bytes pc = .ok (.castore, 1)) (hp : pc + 1 = pc') (ha : n0 ≤ a)
    (G : ∀ h' : Heap, Wr h h' a j.toNatClampNeg (.int (nar .char x)) → Arf Z h' a ad .char z (upd f j.toNatClampNeg (.int (nar .char x))) → Go w l R n0 Y h' k n pc' Ls rest) : Go w l R n0 Y h k n pc Ls (.int x :: .int j :: .ref a :: rest) := by
  subst hp
  intro T locs X hT hn N
  obtain ⟨-, c, A, S, -⟩ := id F
  obtain ⟨T', h', X', e', W, s'⟩ := stC X C.hx C.hZ hT A (inb_of S ⟨hj, hz⟩) (g := mkF w.m pc Ls (.int x :: .int j :: .ref a :: rest)) rfl rfl (C.d hd)
  obtain ⟨s₂, o, h1, h2⟩ := G h' W (F.set W (fits_nar_char _) hj) T' _ X' e' (by rw [W.size]; exact hn) (Fr.snoc X' N ha)
  exact ⟨s₂, o, s' _ h1, h2⟩
theorem g_iastore (C : Cx w Z own bytes ml rt nm R n0 Q Y) {j x : Int32} (F : Arf Z h a ad .int z f) (hj : ¬ j < 0) (hz : j < z) (hd : decode bytes pc = .ok (.iastore, 1)) (hp : pc + 1 = pc') (ha : n0 ≤ a)
    (G : ∀ h' : Heap, Wr h h' a j.toNatClampNeg (.int x) → Arf Z h' a ad .int z (upd f j.toNatClampNeg (.int x)) → Go w l R n0 Y h' k n pc' Ls rest) : Go w l R n0 Y h k n pc Ls (.int x :: .int j :: .ref a :: rest) := by
  subst hp
  intro T locs X hT hn N
  obtain ⟨-, c, A, S, -⟩ := id F
  obtain ⟨T', h', X', e', W, s'⟩ := stI X C.hx C.hZ hT A (inb_of S ⟨hj, hz⟩) (g := mkF w.m pc Ls (.int x :: .int j :: .ref a :: rest)) rfl rfl (C.d hd)
  obtain ⟨s₂, o, h1, h2⟩ := G h' W (F.set W (rfl) hj) T' _ X' e' (by rw [W.size]; exact hn) (Fr.snoc X' N ha)
  exact ⟨s₂, o, s' _ h1, h2⟩
theorem g_baload (C : Cx w Z own bytes ml rt nm R n0 Q Y) {j : Int32} {v : Value} (F : Arf Z h a ad .byte z f) (hj : ¬ j < 0) (hz : j < z) (hv : f j.toNatClampNeg = v) (hd : decode bytes pc = .ok (.baload, 1)) (hp : pc + 1 = pc')
    (G : Go w l R n0 Y h k n pc' Ls (v :: rest)) : Go w l R n0 Y h k n pc Ls (.int j :: .ref a :: rest) := by
  subst hp
  obtain ⟨-, c, A, S, -, r⟩ := F
  exact Go.stand (fun T t locs X hT K => X.baloadBytes C.hx (j := j) (v := v) (by rw [hT]; exact A.1) (State.isArrayOf_alike C.hZ.alike A.2.1) A.2.2 (inb_of S ⟨hj, hz⟩) (by rw [(r _ (by rw [S]; exact nat_lt hj hz)).1, hv]) (g := mkF w.m pc Ls (.int j :: .ref a :: rest)) rfl rfl (C.d hd) _ K) G
theorem g_zaload (C : Cx w Z own bytes ml rt nm R n0 Q Y) {j : Int32} {v : Value} (F : Arf Z h a ad .boolean z f) (hj : ¬ j < 0) (hz : j < z) (hv : f j.toNatClampNeg = v) (hd : decode bytes pc = .ok (.baload, 1)) (hp : pc + 1 = pc')
    (G : Go w l R n0 Y h k n pc' Ls (v :: rest)) : Go w l R n0 Y h k n pc Ls (.int j :: .ref a :: rest) := by
  subst hp
  obtain ⟨-, c, A, S, -, r⟩ := F
  exact Go.stand (fun T t locs X hT K => X.baloadBooleans C.hx (j := j) (v := v) (by rw [hT]; exact A.1) (State.isArrayOf_alike C.hZ.alike A.2.1) A.2.2 (inb_of S ⟨hj, hz⟩) (by rw [(r _ (by rw [S]; exact nat_lt hj hz)).1, hv]) (g := mkF w.m pc Ls (.int j :: .ref a :: rest)) rfl rfl (C.d hd) _ K) G
theorem g_caload (C : Cx w Z own bytes ml rt nm R n0 Q Y) {j : Int32} {v : Value} (F : Arf Z h a ad .char z f) (hj : ¬ j < 0) (hz : j < z) (hv : f j.toNatClampNeg = v) (hd : decode bytes pc = .ok (.caload, 1)) (hp : pc + 1 = pc')
    (G : Go w l R n0 Y h k n pc' Ls (v :: rest)) : Go w l R n0 Y h k n pc Ls (.int j :: .ref a :: rest) := by
  subst hp
  obtain ⟨-, c, A, S, -, r⟩ := F
  exact Go.stand (fun T t locs X hT K => X.caload C.hx (j := j) (v := v) (by rw [hT]; exact A.1) (State.isArrayOf_alike C.hZ.alike A.2.1) A.2.2 (inb_of S ⟨hj, hz⟩) (by rw [(r _ (by rw [S]; exact nat_lt hj hz)).1, hv]) (g := mkF w.m pc Ls (.int j :: .ref a :: rest)) rfl rfl (C.d hd) _ K) G
theorem g_iaload (C : Cx w Z own bytes ml rt nm R n0 Q Y) {j : Int32} {v : Value} (F : Arf Z h a ad .int z f) (hj : ¬ j < 0) (hz : j < z) (hv : f j.toNatClampNeg = v) (hd : decode bytes pc = .ok (.iaload, 1)) (hp : pc + 1 = pc')
    (G : Go w l R n0 Y h k n pc' Ls (v :: rest)) : Go w l R n0 Y h k n pc Ls (.int j :: .ref a :: rest) := by
  subst hp
  obtain ⟨-, c, A, S, -, r⟩ := F
  exact Go.stand (fun T t locs X hT K => X.iaload C.hx (j := j) (v := v) (by rw [hT]; exact A.1) (State.isArrayOf_alike C.hZ.alike A.2.1) A.2.2 (inb_of S ⟨hj, hz⟩) (by rw [(r _ (by rw [S]; exact nat_lt hj hz)).1, hv]) (g := mkF w.m pc Ls (.int j :: .ref a :: rest)) rfl rfl (C.d hd) _ K) G
theorem g_aaload (C : Cx w Z own bytes ml rt nm R n0 Q Y) {j : Int32} {v : Value} (hty : ty.isReference = true) (F : Arf Z h a ad ty z f) (hj : ¬ j < 0) (hz : j < z) (hv : f j.toNatClampNeg = v) (hd : decode bytes pc = .ok (.aaload, 1)) (hp : pc + 1 = pc')
    (G : Go w l R n0 Y h k n pc' Ls (v :: rest)) : Go w l R n0 Y h k n pc Ls (.int j :: .ref a :: rest) := by
  subst hp
  obtain ⟨-, c, A, S, -, r⟩ := F
  exact Go.stand (fun T t locs X hT K => X.aaload C.hx (j := j) (v := v) (by rw [hT]; exact A.1) (State.isArrayOf_alike C.hZ.alike A.2.1) hty A.2.2 (inb_of S ⟨hj, hz⟩) (by rw [(r _ (by rw [S]; exact nat_lt hj hz)).1, hv]) (g := mkF w.m pc Ls (.int j :: .ref a :: rest)) rfl rfl (C.d hd) _ K) G
theorem g_len (C : Cx w Z own bytes ml rt nm R n0 Q Y) (F : Arf Z h a ad ty z f) (hd : decode bytes pc = .ok (.arraylength, 1)) (hp : pc + 1 = pc') (G : Go w l R n0 Y h k n pc' Ls (.int z :: rest)) : Go w l R n0 Y h k n pc Ls (.ref a :: rest) := by
  subst hp
  obtain ⟨-, c, A, S, M, r⟩ := F
  refine Go.stand (fun T t locs X hT K => X.arraylength C.hx (by rw [hT]; exact A.1) (State.isArrayOf_alike C.hZ.alike A.2.1) (g := mkF w.m pc Ls (.ref a :: rest)) rfl rfl (C.d hd) _ ?_) G
  rw [len_of S M]; exact K
theorem g_cast (C : Cx w Z own bytes ml rt nm R n0 Q Y) {i : Nat} {cl : String} (w1 : (Jvm.Cond.classLink own i cl).before a0 Z = true) (I : Ins Z h a cl true) (hd : decode bytes pc = .ok (.checkcast i, 3)) (hp : pc + 3 = pc') (G : Go w l R n0 Y h k n pc' Ls (.ref a :: rest)) : Go w l R n0 Y h k n pc Ls (.ref a :: rest) := by
  subst hp
  intro T locs X hT hn N
  obtain ⟨T', X', e', s'⟩ := castY X C.hx C.hZ C.hown w1 hT I (g := mkF w.m pc Ls (.ref a :: rest)) rfl rfl (C.d hd)
  obtain ⟨s₂, o, h1, h2⟩ := G T' locs X' e' hn N
  exact ⟨s₂, o, s' _ h1, h2⟩
theorem g_castNull (C : Cx w Z own bytes ml rt nm R n0 Q Y) {i : Nat} (hd : decode bytes pc = .ok (.checkcast i, 3)) (hp : pc + 3 = pc') (G : Go w l R n0 Y h k n pc' Ls (.null :: rest)) : Go w l R n0 Y h k n pc Ls (.null :: rest) := by
  subst hp
  exact Go.stand (fun T t locs X hT K => X.checkcastNull C.hx (g := mkF w.m pc Ls (.null :: rest)) rfl rfl (C.d hd) _ K) G
theorem g_inst (C : Cx w Z own bytes ml rt nm R n0 Q Y) {i : Nat} {cl : String} (w1 : (Jvm.Cond.classLink own i cl).before a0 Z = true) (I : Ins Z h a cl true) (hd : decode bytes pc = .ok (.instanceof i, 3)) (hp : pc + 3 = pc') (G : Go w l R n0 Y h k n pc' Ls (.int 1 :: rest)) : Go w l R n0 Y h k n pc Ls (.ref a :: rest) := by
  subst hp
  intro T locs X hT hn N
  obtain ⟨T', X', e', s'⟩ := instY X C.hx C.hZ C.hown w1 hT I (g := mkF w.m pc Ls (.ref a :: rest)) rfl rfl (C.d hd)
  obtain ⟨s₂, o, h1, h2⟩ := G T' locs X' e' hn N
  exact ⟨s₂, o, s' _ h1, h2⟩
theorem g_initO (C : Cx w Z own bytes ml rt nm R n0 Q Y) {i : Nat} {W : Nat} (w1 : (Jvm.Cond.methodLink own i Lib.objectInit).before a0 Z = true) (w2 : (Jvm.Cond.instanceMethod Lib.objectInit).before a0 Z = true) (w3 : (Jvm.Cond.code Lib.objectInit ⟨#[0xb1]⟩ 1 none).before a0 Z = true) (hd : decode bytes pc = .ok (.invokespecial i, 3)) (hp : pc + 3 = pc') (hml : Ls.size = ml) (hf : 1 ≤ R.frames) (hW : (rest.map fun v => v.category).sum ≤ W) (hl : W + 12 ≤ R.locals)
    (G : Go w l R n0 Y h k n pc' Ls rest) : Go w l R n0 Y h k n pc Ls (.ref a :: rest) := by
  subst hp
  intro T locs X hT hn N
  obtain ⟨T', X', e', s'⟩ := initO X C.hx C.hZ C.hown w1 w2 w3 hT (g := mkF w.m pc Ls (.ref a :: rest)) rfl (by rw [C.hml]; exact hml) rfl (C.d hd) hf (W := W) (by simpa using hW) hl
  obtain ⟨s₂, o, h1, h2⟩ := G T' locs X' e' hn N
  exact ⟨s₂, o, s' _ h1, h2⟩
/-- what a callee's Back says here -/
abbrev PreB (R : Room) (h : Heap) (rm : Room) (as' : Array Value) : Pt → Array Value → Prop := fun A a => a = as' ∧ A.U.heap = h ∧ A.cells + rm.cells ≤ R.cells ∧ A.slots + rm.slots ≤ R.slots
abbrev PostB (n0 : Nat) (rm : Room) (Qc : Option Value → Heap → Prop) : Pt → Array Value → Option Value → Pt → Prop := fun A _ v B => ∃ L, (Qc v B.U.heap ∧ Fr n0 L ∧ A.U.heap.size ≤ B.U.heap.size) ∧ B.locs = A.locs ++ L ∧ B.cells = A.cells + rm.cells ∧ B.slots = A.slots + rm.slots
theorem Met.back {y : MethodName} {yb : ByteArray} {yl : Nat} {yr : Option FieldType} {rm : Room} {as' : Array Value} {Qc : Option Value → Heap → Prop} {W len : Nat} (M : Met l Z y yb yl yr rm n0 h as' Qc) (hn : n0 ≤ h.size) (hZ : Z.Warmed39 w.s.vm) (wc : (Jvm.Cond.code y yb yl yr).before a0 Z = true) (wz : (Jvm.Cond.initialized y.cls).before a0 Z = true) (hf : rm.frames + 1 ≤ R.frames) (hl : W + (yl + 11) + rm.locals ≤ R.locals) :
    Back l R w.p w.e w.below w.s w.as y len W (PreB R h rm as') (PostB n0 rm Qc) :=
  Back.mono (backOf (W := W) (Q := fun v h' L => Qc v h' ∧ Fr n0 L ∧ h.size ≤ h'.size) (M hn []) hZ wc wz hf hl) (fun P a hp => hp) (fun P a v B hp hq => by
    obtain ⟨L, q, r⟩ := hq
    exact ⟨L, ⟨q.1, q.2.1, by rw [hp.2.1]; exact q.2.2⟩, r⟩)
section Calls
variable {y y' : MethodName} {yb : ByteArray} {yl : Nat} {yr : Option FieldType} {rm : Room} {Qc : Option Value → Heap → Prop} {W i k' n' : Nat} {argsL : List Value} {cl : String}
theorem g_static (C : Cx w Z own bytes ml rt nm R n0 Q Y) (w1 : (Jvm.Cond.methodLink own i y).before a0 Z = true) (w2 : (Jvm.Cond.static y).before a0 Z = true) (w3 : (Jvm.Cond.initialized y.cls).before a0 Z = true) (w4 : (Jvm.Cond.code y yb yl yr).before a0 Z = true) (hy : y.cls ≠ "java/lang/invoke/MethodHandle" ∧ y.cls ≠ "java/lang/invoke/VarHandle")
    (hd : decode bytes pc = .ok (.invokestatic i, 3)) (hp : pc + 3 = pc') (hlen : ∀ sig, parseMethodDescriptor y.desc = some sig → argsL.length = sig.parameters.length) (hst : st = argsL.reverse ++ rest) (hW : (rest.map fun v => v.category).sum ≤ W) (hml : Ls.size = ml)
    (B : n0 ≤ h.size → Back l R w.p w.e w.below w.s w.as y 3 W (PreB R h rm argsL.toArray) (PostB n0 rm Qc)) (hk : k + rm.cells = k') (hn : n + rm.slots = n') (hc : k' ≤ R.cells) (hs : n' ≤ R.slots)
    (G : ∀ (v : Option Value) (h' : Heap), Qc v h' → Go w l R n0 Y h' k' n' pc' Ls (v.toList ++ rest)) : Go w l R n0 Y h k n pc Ls st := by
  subst hp hk hn
  intro T locs X hT hn N
  obtain ⟨v, vm₁, ⟨TB, LB, kB, nB⟩, -, X', ⟨L, hQ, l1, l2, l3⟩, s'⟩ := Jvm.LawKit.callS X C.hx C.hown (mvT C.hZ w1) (mvT C.hZ w2) (mvT C.hZ w3) (mvT C.hZ w4) hy (B hn.1) (g := mkF w.m pc Ls st) rfl (by rw [C.hml]; exact hml) (argsL := argsL) (rest := rest) hlen hst (by simpa using hW) (C.d hd) (fun vm₁ h₁ => ⟨rfl, hT, hc, hs⟩)
  dsimp only [Pt.U, Pt.locs, Pt.cells, Pt.slots] at X' l1 l2 l3 s' hQ
  subst l1 l2 l3
  obtain ⟨s₂, o, h1, h2⟩ := G v TB.heap hQ.1 TB _ X' rfl (own_grow hn (hT ▸ hQ.2.2)) (N.app hQ.2.1)
  exact ⟨s₂, o, s' _ h1, h2⟩
theorem g_special (C : Cx w Z own bytes ml rt nm R n0 Q Y) {yl0 : Nat} {yb0 : ByteArray} (hy1 : y.name = "<init>") (w1 : (Jvm.Cond.methodLink own i y).before a0 Z = true) (w2 : (Jvm.Cond.instanceMethod y).before a0 Z = true) (w4 : (Jvm.Cond.code y yb0 yl0 none).before a0 Z = true) (hy : y.cls ≠ "java/lang/invoke/MethodHandle" ∧ y.cls ≠ "java/lang/invoke/VarHandle")
    (hd : decode bytes pc = .ok (.invokespecial i, 3)) (hp : pc + 3 = pc') (hlen : ∀ sig, parseMethodDescriptor y.desc = some sig → argsL.length = sig.parameters.length) (hst : st = argsL.reverse ++ .ref a :: rest) (hW : (rest.map fun v => v.category).sum ≤ W) (hml : Ls.size = ml)
    (B : n0 ≤ h.size → Back l R w.p w.e w.below w.s w.as y 3 W (PreB R h rm (.ref a :: argsL).toArray) (PostB n0 rm Qc)) (hk : k + rm.cells = k') (hn : n + rm.slots = n') (hc : k' ≤ R.cells) (hs : n' ≤ R.slots)
    (G : ∀ (v : Option Value) (h' : Heap), Qc v h' → Go w l R n0 Y h' k' n' pc' Ls (v.toList ++ rest)) : Go w l R n0 Y h k n pc Ls st := by
  subst hp hk hn
  intro T locs X hT hn N
  obtain ⟨v, vm₁, ⟨TB, LB, kB, nB⟩, -, X', ⟨L, hQ, l1, l2, l3⟩, s'⟩ := X.specialBack C.hx hy1 C.hown (mvT C.hZ w1) (mvT C.hZ w2) (mvT C.hZ w4) hy (B hn.1) (g := mkF w.m pc Ls st) rfl (by rw [C.hml]; exact hml) (Steps.refl _) (a := a) (argsL := argsL) (rest := rest) hlen hst (by simpa using hW) (C.d hd) (fun vm₁ h₁ => ⟨rfl, hT, hc, hs⟩)
  dsimp only [Pt.U, Pt.locs, Pt.cells, Pt.slots] at X' l1 l2 l3 s' hQ
  subst l1 l2 l3
  obtain ⟨s₂, o, h1, h2⟩ := G v TB.heap hQ.1 TB _ X' rfl (own_grow hn (hT ▸ hQ.2.2)) (N.app hQ.2.1)
  exact ⟨s₂, o, s'.trans h1, h2⟩
theorem g_virtual (C : Cx w Z own bytes ml rt nm R n0 Q Y) (w1 : (Jvm.Cond.methodLink own i y).before a0 Z = true) (w2 : (Jvm.Cond.declares y).before a0 Z = true) (nf : NotFace w.s y) (w3 : (Jvm.Cond.selects cl y y').before a0 Z = true) (w4 : (Jvm.Cond.instanceMethod y').before a0 Z = true) (hy : y.cls ≠ "java/lang/invoke/MethodHandle" ∧ y.cls ≠ "java/lang/invoke/VarHandle") (E : Exa Z h a cl)
    (hd : decode bytes pc = .ok (.invokevirtual i, 3)) (hp : pc + 3 = pc') (hlen : ∀ sig, parseMethodDescriptor y.desc = some sig → argsL.length = sig.parameters.length) (hst : st = argsL.reverse ++ .ref a :: rest) (hW : (rest.map fun v => v.category).sum ≤ W) (hml : Ls.size = ml)
    (B : n0 ≤ h.size → Back l R w.p w.e w.below w.s w.as y' 3 W (PreB R h rm (.ref a :: argsL).toArray) (PostB n0 rm Qc)) (hk : k + rm.cells = k') (hn : n + rm.slots = n') (hc : k' ≤ R.cells) (hs : n' ≤ R.slots)
    (G : ∀ (v : Option Value) (h' : Heap), Qc v h' → Go w l R n0 Y h' k' n' pc' Ls (v.toList ++ rest)) : Go w l R n0 Y h k n pc Ls st := by
  subst hp hk hn
  intro T locs X hT hn N
  obtain ⟨cq, kq, qa, qb, qc⟩ := isOf C.hZ hT E
  obtain ⟨v, vm₁, ⟨TB, LB, kB, nB⟩, -, X', ⟨L, hQ, l1, l2, l3⟩, s'⟩ := X.virtualBack C.hx C.hown (mvT C.hZ w1) (mvT C.hZ w2) nf (mvT C.hZ w3) (mvT C.hZ w4) hy (B hn.1) qa qc (g := mkF w.m pc Ls st) rfl (by rw [C.hml]; exact hml) (Steps.refl _) (argsL := argsL) (rest := rest) hlen hst (by simpa using hW) (C.d hd) (fun vm₁ h₁ => ⟨rfl, hT, hc, hs⟩)
  dsimp only [Pt.U, Pt.locs, Pt.cells, Pt.slots] at X' l1 l2 l3 s' hQ
  subst l1 l2 l3
  obtain ⟨s₂, o, h1, h2⟩ := G v TB.heap hQ.1 TB _ X' rfl (own_grow hn (hT ▸ hQ.2.2)) (N.app hQ.2.1)
  exact ⟨s₂, o, s'.trans h1, h2⟩
theorem g_nf (C : Cx w Z own bytes ml rt nm R n0 Q Y) (w3 : (Jvm.Cond.selects cl y y).before a0 Z = true) : NotFace w.s y := notFace_of_selects (args := #[]) (mvT C.hZ w3)
theorem g_selPriv (C : Cx w Z own bytes ml rt nm R n0 Q Y) {yo : MethodName} (hc : yo.cls = y.cls) (w3 : (Jvm.Cond.selects yo.cls yo yo).before a0 Z = true) (w2 : (Jvm.Cond.instanceMethod y).before a0 Z = true) (w5 : (Jvm.Cond.privateMethod y).before a0 Z = true) (hy : y.cls ≠ "java/lang/invoke/MethodHandle" ∧ y.cls ≠ "java/lang/invoke/VarHandle") : (Jvm.Cond.selects y.cls y y).before w.as w.s = true := by
  have h3 : (Jvm.Cond.selects yo.cls yo yo).before w.as w.s = true := mvT C.hZ w3
  obtain ⟨c2, r2, m2, -, -, q3, -, kP, hkP, hkPi⟩ := Cond.selects_spec h3
  exact selects_self_of_private (c := m2.cls) (hc ▸ findClass_of_methodNamed q3) hkP hkPi (Cond.privateMethod_at (mvP C.hZ w5 (args := #[]))) (mvT C.hZ w2) hy
theorem g_private (C : Cx w Z own bytes ml rt nm R n0 Q Y) (w1 : (Jvm.Cond.methodLink own i y).before a0 Z = true) (w2 : (Jvm.Cond.instanceMethod y).before a0 Z = true) (w3 : (Jvm.Cond.selects y.cls y y).before w.as w.s = true) (w5 : (Jvm.Cond.privateMethod y).before a0 Z = true) (w4 : (Jvm.Cond.code y yb yl yr).before a0 Z = true) (hy : y.cls ≠ "java/lang/invoke/MethodHandle" ∧ y.cls ≠ "java/lang/invoke/VarHandle") (E : Exa Z h a cl)
    (hd : decode bytes pc = .ok (.invokevirtual i, 3)) (hp : pc + 3 = pc') (hlen : ∀ sig, parseMethodDescriptor y.desc = some sig → argsL.length = sig.parameters.length) (hst : st = argsL.reverse ++ .ref a :: rest) (hW : (rest.map fun v => v.category).sum ≤ W) (hml : Ls.size = ml)
    (B : n0 ≤ h.size → Back l R w.p w.e w.below w.s w.as y 3 W (PreB R h rm (.ref a :: argsL).toArray) (PostB n0 rm Qc)) (hk : k + rm.cells = k') (hn : n + rm.slots = n') (hc : k' ≤ R.cells) (hs : n' ≤ R.slots)
    (G : ∀ (v : Option Value) (h' : Heap), Qc v h' → Go w l R n0 Y h' k' n' pc' Ls (v.toList ++ rest)) : Go w l R n0 Y h k n pc Ls st := by
  subst hp hk hn
  intro T locs X hT hn N
  obtain ⟨cq, q1, q2⟩ := E.cell
  obtain ⟨v, vm₁, ⟨TB, LB, kB, nB⟩, -, X', ⟨L, hQ, l1, l2, l3⟩, s'⟩ := X.privateBack C.hx C.hown (mvT C.hZ w1) (mvT C.hZ w2) w3 (Cond.privateMethod_at (mvP C.hZ w5 (args := #[]))) (mvT C.hZ w4) hy (B hn.1) (g := mkF w.m pc Ls st) rfl (by rw [C.hml]; exact hml) (Steps.refl _) (a := a) (by rw [hT]; exact q1) q2 (argsL := argsL) (rest := rest) hlen hst (by simpa using hW) (C.d hd) (fun vm₁ h₁ => ⟨rfl, hT, hc, hs⟩)
  dsimp only [Pt.U, Pt.locs, Pt.cells, Pt.slots] at X' l1 l2 l3 s' hQ
  subst l1 l2 l3
  obtain ⟨s₂, o, h1, h2⟩ := G v TB.heap hQ.1 TB _ X' rfl (own_grow hn (hT ▸ hQ.2.2)) (N.app hQ.2.1)
  exact ⟨s₂, o, s'.trans h1, h2⟩
theorem g_iface (C : Cx w Z own bytes ml rt nm R n0 Q Y) {ct : Nat} (w1 : (Jvm.Cond.methodLink own i y).before a0 Z = true) (w2 : (Jvm.Cond.declares y).before a0 Z = true) (w3 : (Jvm.Cond.interfaceMethod y.cls y.cls y.name y.desc).before a0 Z = true) (fa : ((Jvm.Cond.interfaceMethod y.cls y.cls y.name y.desc).onTables && (Jvm.Cond.interfaceMethod y.cls y.cls y.name y.desc).keepsFace) = true) (w4 : (Jvm.Cond.selects cl y y').before a0 Z = true) (w5 : (Jvm.Cond.instanceMethod y').before a0 Z = true) (w6 : (Jvm.Cond.publicMethod y').before a0 Z = true) (w7 : (Jvm.Cond.unhidden cl y.name y.desc).before a0 Z = true) (w8 : (Jvm.Cond.castable cl y.cls).before a0 Z = true) (hy : y.cls ≠ "java/lang/invoke/MethodHandle" ∧ y.cls ≠ "java/lang/invoke/VarHandle") (E : Exa Z h a cl)
    (hd : decode bytes pc = .ok (.invokeinterface i ct, 5)) (hp : pc + 5 = pc') (hlen : ∀ sig, parseMethodDescriptor y.desc = some sig → argsL.length = sig.parameters.length) (hst : st = argsL.reverse ++ .ref a :: rest) (hW : (rest.map fun v => v.category).sum ≤ W) (hml : Ls.size = ml)
    (B : n0 ≤ h.size → Back l R w.p w.e w.below w.s w.as y' 5 W (PreB R h rm (.ref a :: argsL).toArray) (PostB n0 rm Qc)) (hk : k + rm.cells = k') (hn : n + rm.slots = n') (hc : k' ≤ R.cells) (hs : n' ≤ R.slots)
    (G : ∀ (v : Option Value) (h' : Heap), Qc v h' → Go w l R n0 Y h' k' n' pc' Ls (v.toList ++ rest)) : Go w l R n0 Y h k n pc Ls st := by
  subst hp hk hn
  intro T locs X hT hn N
  obtain ⟨cq, kq, qa, qb, qc⟩ := isOf C.hZ hT E
  obtain ⟨v, vm₁, ⟨TB, LB, kB, nB⟩, -, X', ⟨L, hQ, l1, l2, l3⟩, s'⟩ := X.interfaceBack C.hx C.hown (mvT C.hZ w1) (mvT C.hZ w2) (mvT C.hZ w3 fa) (mvT C.hZ w4) (mvT C.hZ w5) (mvT C.hZ w6) (mvT C.hZ w7) (mvT C.hZ w8) hy (B hn.1) qa qb qc (g := mkF w.m pc Ls st) rfl (by rw [C.hml]; exact hml) (Steps.refl _) (argsL := argsL) (rest := rest) hlen hst (by simpa using hW) (C.d hd) (fun vm₁ h₁ => ⟨rfl, hT, hc, hs⟩)
  dsimp only [Pt.U, Pt.locs, Pt.cells, Pt.slots] at X' l1 l2 l3 s' hQ
  subst l1 l2 l3
  obtain ⟨s₂, o, h1, h2⟩ := G v TB.heap hQ.1 TB _ X' rfl (own_grow hn (hT ▸ hQ.2.2)) (N.app hQ.2.1)
  exact ⟨s₂, o, s'.trans h1, h2⟩
end Calls
end OwnKit
section OwnKit2
variable {w : Wk} {l : Launch} {R : Room} {Z : State} {a0 : Array Value} {own : String} {bytes : ByteArray} {ml : Nat} {rt : Option FieldType} {nm : String} {n0 : Nat} {Q : Option Value → Heap → Prop} {Y : State → Outcome → Prop} {h : Heap} {k n pc pc' : Nat} {Ls Ls' : Array Slot} {st rest : List Value} {a b : Addr} {ad : String} {ty : FieldType} {z : Int32} {f : Nat → Value} {h' : Heap}
theorem own_getD (f : Nat → Value) (m i : Nat) (d : Value) (hi : i < m) : ((List.range m).map f).getD i d = f i := by simp [List.getD, hi]
theorem g_clone (C : Cx w Z own bytes ml rt nm R n0 Q Y) {i W cap k' n' : Nat} (w1 : (Jvm.Cond.methodLink own i ⟨ad, "clone", "()Ljava/lang/Object;"⟩).before a0 Z = true) (w2 : (Jvm.Cond.sameMethod ad "java/lang/Object" "clone" "()Ljava/lang/Object;").before a0 Z = true) (w3 : (Jvm.Cond.native ⟨"java/lang/Object", "clone", "()Ljava/lang/Object;"⟩).before a0 Z = true) (w4 : (Jvm.Cond.instanceMethod ⟨"java/lang/Object", "clone", "()Ljava/lang/Object;"⟩).before a0 Z = true) (w5 : (Jvm.Cond.selects ad ⟨ad, "clone", "()Ljava/lang/Object;"⟩ ⟨"java/lang/Object", "clone", "()Ljava/lang/Object;"⟩).before a0 Z = true) (w6 : (Jvm.Cond.castable ad "java/lang/Cloneable").before a0 Z = true)
    (F : Arf Z h a ad ty z f) (hd : decode bytes pc = .ok (.invokevirtual i, 3)) (hp : pc + 3 = pc') (hml : Ls.size = ml) (hf : 1 ≤ R.frames) (hW : (rest.map fun v => v.category).sum ≤ W) (hl : W + 14 ≤ R.locals) (hcap : z.toNatClampNeg ≤ cap) (hk : k + 1 = k') (hn : n + cap = n') (hc : k' ≤ R.cells) (hs : n' ≤ R.slots)
    (G : ∀ (h' : Heap) (b : Addr), Ext h h' → h.size ≤ b → n0 ≤ b → Arf Z h' b ad ty z f → Go w l R n0 Y h' k' n' pc' Ls (.ref b :: rest)) : Go w l R n0 Y h k n pc Ls (.ref a :: rest) := by
  subst hp hk hn
  intro T locs X hT hn N
  obtain ⟨kc, V⟩ := F.arv .null
  obtain ⟨T', h', X', e', E, A, Ex, s'⟩ := cloneH X C.hx C.hZ C.hown w1 w2 w3 w4 w5 w6 hT V.arh F.1 (g := mkF w.m pc Ls (.ref a :: rest)) rfl (by rw [C.hml]; exact hml) rfl (C.d hd) hf (W := W) (by simpa using hW) hl hcap hc hs
  have A' : Arv Z h' h.size kc ty z ((List.range z.toNatClampNeg).map f) .null := A
  obtain ⟨s₂, o, h1, h2⟩ := G h' _ E (Nat.le_refl _) hn.1 ((Arf.of_arv Ex A').congr fun i hi => own_getD _ _ _ _ hi) T' locs X' e' (own_grow hn E.1) N
  exact ⟨s₂, o, s' _ h1, h2⟩
theorem own_acopy_list (f g : Nat → Value) (n m dp sp : Nat) (h : dp + m ≤ n) (i : Nat) (hi : i < n) :
    ((((List.range n).map g).take dp ++ (List.range m).map (fun j => ((List.range (sp + m)).map f).getD (sp + j) .null)) ++ ((List.range n).map g).drop (dp + m)).getD i .null = if dp ≤ i ∧ i < dp + m then f (sp + (i - dp)) else g i := by
  have l1 : (((List.range n).map g).take dp).length = dp := by simp; omega
  by_cases c1 : i < dp
  · rw [if_neg (by omega)]
    simp only [List.getD, List.getElem?_append, l1, List.length_append, List.length_map, List.length_range]
    simp [c1, show i < dp + m by omega, hi, List.getElem?_take]
  · by_cases c2 : i < dp + m
    · rw [if_pos (by omega)]
      simp only [List.getD, List.getElem?_append, l1, List.length_append, List.length_map, List.length_range]
      simp [c1, c2, show i - dp < m by omega, show sp + (i - dp) < sp + m by omega]
    · rw [if_neg (by omega)]
      simp only [List.getD, List.getElem?_append, l1, List.length_append, List.length_map, List.length_range]
      simp [c2, List.getElem?_drop, show dp + m + (i - (dp + m)) = i by omega, hi]
theorem g_acopy (C : Cx w Z own bytes ml rt nm R n0 Q Y) {i W : Nat} {ad' : String} {g : Nat → Value} {z' sp dp m : Int32} (w1 : (Jvm.Cond.methodLink own i Jvm.Stand.acN).before a0 Z = true) (w2 : (Jvm.Cond.native Jvm.Stand.acN).before a0 Z = true) (w3 : (Jvm.Cond.static Jvm.Stand.acN).before a0 Z = true) (w4 : (Jvm.Cond.initialized "java/lang/System").before a0 Z = true)
    (A : Arf Z h a ad ty z f) (B : Arf Z h b ad' ty z' g) (hty : refKind ty = false) (h1 : ¬ sp < 0) (h2 : ¬ dp < 0) (h3 : ¬ m < 0) (h4 : sp.toNatClampNeg + m.toNatClampNeg ≤ z.toNatClampNeg) (h5 : dp.toNatClampNeg + m.toNatClampNeg ≤ z'.toNatClampNeg) (ge : n0 ≤ b)
    (hd : decode bytes pc = .ok (.invokestatic i, 3)) (hp : pc + 3 = pc') (hml : Ls.size = ml) (hf : 1 ≤ R.frames) (hW : (rest.map fun v => v.category).sum ≤ W) (hl : W + 18 ≤ R.locals)
    (G : ∀ h' : Heap, Keep h h' [b] → Arf Z h' b ad' ty z' (fun i => if dp.toNatClampNeg ≤ i ∧ i < dp.toNatClampNeg + m.toNatClampNeg then f (sp.toNatClampNeg + (i - dp.toNatClampNeg)) else g i) → Go w l R n0 Y h' k n pc' Ls rest) : Go w l R n0 Y h k n pc Ls (.int m :: .int dp :: .ref b :: .int sp :: .ref a :: rest) := by
  subst hp
  intro T locs X hT hn N
  obtain ⟨kc, V⟩ := A.arv .null
  obtain ⟨kd, U⟩ := B.arv .null
  obtain ⟨T', h', L, X', e', N', K, A', s'⟩ := cpA X C.hx C.hZ C.hown w1 w2 w3 w4 hT V U (Or.inl ⟨rfl, hty⟩) h1 h2 h3 h4 h5 rfl (by simpa using h5) N ge (g := mkF w.m pc Ls (.int m :: .int dp :: .ref b :: .int sp :: .ref a :: rest)) rfl (by rw [C.hml]; exact hml) rfl (C.d hd) hf (W := W) (by simpa using hW) (by rw [show nativeFrameWords "java/lang/System" "arraycopy" 5 = 7 from by decide]; exact hl)
  have F := (Arf.of_arv (B.1.keep K) A')
  have F' : Arf Z h' b ad' ty z' (fun i => if dp.toNatClampNeg ≤ i ∧ i < dp.toNatClampNeg + m.toNatClampNeg then f (sp.toNatClampNeg + (i - dp.toNatClampNeg)) else g i) := by
    refine F.congr fun i hi => ?_
    show _ = if dp.toNatClampNeg ≤ i ∧ i < dp.toNatClampNeg + m.toNatClampNeg then f (sp.toNatClampNeg + (i - dp.toNatClampNeg)) else g i
    rw [← own_acopy_list f g z'.toNatClampNeg m.toNatClampNeg dp.toNatClampNeg sp.toNatClampNeg h5 i hi]
    congr 2
    congr 1
    apply List.map_congr_left
    intro j hj
    have hj' := List.mem_range.mp hj
    rw [own_getD _ _ _ _ (by omega), own_getD _ _ _ _ (by omega)]
  obtain ⟨s₂, o, g1, g2⟩ := G h' K F' T' L X' e' (own_grow hn K.1) N'
  exact ⟨s₂, o, s' _ g1, g2⟩
end OwnKit2
theorem n32_toInt {n : Nat} (h : n < 2147483648) : (Int32.ofNat n).toInt = n := Int32.toInt_ofNat_of_lt (by omega)
theorem n32_nat {n : Nat} (h : n < 2147483648) : (Int32.ofNat n).toNatClampNeg = n := by rw [Int32.toNatClampNeg, n32_toInt h]; rfl
theorem n32_nn {n : Nat} (h : n < 2147483648) : ¬ Int32.ofNat n < 0 := by
  rw [Int32.lt_iff_toInt_lt, n32_toInt h, show (0 : Int32).toInt = 0 from rfl]; omega
theorem n32_lt {i n : Nat} (h : i < n) (hn : n < 2147483648) : Int32.ofNat i < Int32.ofNat n := by
  rw [Int32.lt_iff_toInt_lt, n32_toInt hn, n32_toInt (by omega)]; omega
theorem n32_ge {i n : Nat} (h : n ≤ i) (hn : i < 2147483648) : ¬ Int32.ofNat i < Int32.ofNat n := by
  rw [Int32.lt_iff_toInt_lt, n32_toInt hn, n32_toInt (by omega)]; omega
theorem n32_succ (i : Nat) : Int32.ofNat i + (1 : Int32) = Int32.ofNat (i + 1) := (Int32.ofNat_add i 1).symm
theorem n32_of {z : Int32} (h : ¬ z < 0) : z = Int32.ofNat z.toNatClampNeg := by
  rw [Int32.lt_iff_toInt_lt, show (0 : Int32).toInt = 0 from rfl] at h
  have r := rng32 z
  rw [← Int32.toInt_inj, n32_toInt (by simp only [Int32.toNatClampNeg]; omega)]
  simp only [Int32.toNatClampNeg]; omega
theorem n32_lit {z : Int32} {n : Nat} (h : z.toInt = n) : z.toNatClampNeg = n := by simp only [Int32.toNatClampNeg]; omega
/-! the wide form: the tables may come to hold more strings meanwhile -/
abbrev Wk.reb (w : Wk) (vm : Vm) (kk : Nat) : Wk := (w.p, w.e, w.s.setVm vm, w.m, w.as, w.below, w.meth, w.c, kk)
def LvW (w : Wk) (R : Room) (n0 : Nat) (Q : Option Value → Heap → Prop) (Y : State → Outcome → Prop) : Prop := ∀ (vm1 : Vm) (kk1 : Nat), w.s.Since vm1 kk1 → w.kk ≤ kk1 → Lv (w.reb vm1 kk1) R n0 Q Y
def Wid (w : Wk) (R : Room) (n0 : Nat) (Q : Option Value → Heap → Prop) : State → Outcome → Prop := fun t o => ∃ v L, o = .returned v ∧ (Q v t.heap ∧ Fr n0 L ∧ w.kk ≤ t.heap.size) ∧ ReturnedEndW w.s o t L R.cells R.slots
def MetW (l : Launch) (Z : State) (y : MethodName) (bytes : ByteArray) (ml : Nat) (rt : Option FieldType) (rm : Room) (n0 : Nat) (h0 : Heap) (as' : Array Value) (Q : Option Value → Heap → Prop) : Prop :=
  n0 ≤ h0.size → ∀ ws, MetFree l y (head1 (Jvm.Cond.code y bytes ml rt :: ws) rm) (fun a U => a = as' ∧ Z.Warmed39 U.vm ∧ U.heap = h0) (fun _ _ _ _ _ => True) (fun _ U o U' => ∃ v L, o = .returned v ∧ (Q v U'.heap ∧ Fr n0 L ∧ h0.size ≤ U'.heap.size) ∧ ReturnedEndW U o U' L rm.cells rm.slots)
section OwnWide
variable {w : Wk} {l : Launch} {R : Room} {Z : State} {a0 : Array Value} {own : String} {bytes : ByteArray} {ml : Nat} {rt : Option FieldType} {nm : String} {n0 : Nat} {Q : Option Value → Heap → Prop} {Y : State → Outcome → Prop} {h : Heap} {k n pc pc' : Nat} {Ls Ls' : Array Slot} {st rest : List Value} {a : Addr}
theorem Lv.wid (w : Wk) (R : Room) (n0 : Nat) (Q : Option Value → Heap → Prop) : Lv w R n0 Q (Wid w R n0 Q) := fun T fs locs k n v hW hs N hk hc hn hQ => ⟨v, locs, rfl, ⟨hQ, N, hk⟩, ReturnedEndW.of_narrow ⟨v, rfl⟩ hW (hs.mono hc hn)⟩
theorem LvW.wid (w : Wk) (R : Room) (n0 : Nat) (Q : Option Value → Heap → Prop) : LvW w R n0 Q (Wid w R n0 Q) := fun vm1 kk1 hS hk1 T fs locs k n v hW hs N hk hc hn hQ => by
  obtain ⟨a, b, c'⟩ := hS.ended (U := T.setFrames fs) hW hk hs
  exact ⟨v, locs, rfl, ⟨hQ, N, Nat.le_trans hk1 hk⟩, ⟨v, rfl⟩, a, b, c'.mono hc hn⟩
theorem LvW.reb (L : LvW w R n0 Q Y) {vm1 : Vm} {kk1 : Nat} (hS : w.s.Since vm1 kk1) (hk : w.kk ≤ kk1) : LvW (w.reb vm1 kk1) R n0 Q Y := fun vm2 kk2 hS2 hk2 => L vm2 kk2 (hS.trans hS2 hk2) (Nat.le_trans hk hk2)
theorem Cx.reb (C : Cx w Z own bytes ml rt nm R n0 Q Y) (L : LvW w R n0 Q Y) {vm1 : Vm} {kk1 : Nat} (hS : w.s.Since vm1 kk1) (hk : w.kk ≤ kk1) : Cx (w.reb vm1 kk1) Z own bytes ml rt nm R n0 Q Y :=
  ⟨C.hx, C.2.1, C.hml, by show vm1.findClass own = _; rw [hS.1.alike.findClass]; exact C.hown, State.Warmed39.trans C.hZ hS.1, C.ret, C.locks, C.name, L vm1 kk1 hS hk⟩
theorem MetW.intro {y : MethodName} {rm : Room} {h0 : Heap} {as' : Array Value} (hp : plainFor y = true) (hef : ∀ m, entryFrame m as' ml = mkF m 0 Ls [])
    (H : ∀ (w : Wk) (Y : State → Outcome → Prop), Cx w Z y.cls bytes ml rt y.name rm n0 Q Y → LvW w rm n0 Q Y → Go w l rm n0 Y h0 0 0 0 Ls []) : MetW l Z y bytes ml rt rm n0 h0 as' Q := by
  intro hn ws
  refine MetFree.of_bodySF hp hisR ?_
  intro p e s m args below meth c s₁ Bd hml0 hP hK
  obtain ⟨rfl, hZ, hh⟩ := hP
  have X0 : Stand p l e rm s m args below meth c s₁ [] 0 0 := Stand.of_body Bd
  have e0 : s₁.heap = h0 := by rw [← hh, Bd.state]; rfl
  obtain ⟨s₂, o, g1, g2, g3, g4⟩ := H (p, e, s, m, args, below, meth, c, h0.size) _ ⟨Bd.exec, Bd.bytes, hml0, findClass_of_methodNamed Bd.named, hZ, Bd.returns, BodyLoose.notSynchronized Bd, (name_of_methodNamed Bd.named Bd.method).1, Lv.wid _ _ _ _⟩ (LvW.wid _ _ _ _) s₁ [] X0 e0 ⟨hn, Nat.le_refl _⟩ (Fr.nil n0)
  exact ⟨s₂, o, castTop (hef m) g1, g2, g3, g4⟩
theorem MetW.back {y : MethodName} {yb : ByteArray} {yl : Nat} {yr : Option FieldType} {rm : Room} {as' : Array Value} {Qc : Option Value → Heap → Prop} {W len : Nat} (M : MetW l Z y yb yl yr rm n0 h as' Qc) (hn : n0 ≤ h.size) (hZ : Z.Warmed39 w.s.vm) (wc : (Jvm.Cond.code y yb yl yr).before a0 Z = true) (wz : (Jvm.Cond.initialized y.cls).before a0 Z = true) (hf : rm.frames + 1 ≤ R.frames) (hl : W + (yl + 11) + rm.locals ≤ R.locals) :
    BackS l R w.p w.e w.below w.s w.as y len W (PreB R h rm as') (PostB n0 rm Qc) := by
  have B := backOfS (W := W) (len := len) (Q := fun v h' L => Qc v h' ∧ Fr n0 L ∧ h.size ≤ h'.size) (p := w.p) (e := w.e) (below := w.below) (args := w.as) (R := R) (M hn []) hZ wc wz hf hl
  intro m meth c A g ig mk a X hg hsize hdg hW hnm hp
  obtain ⟨v, B', X', hS, hgr, ⟨L, q, r⟩, hst⟩ := B m meth c A g ig mk a X hg hsize hdg hW hnm hp
  exact ⟨v, B', X', hS, hgr, ⟨L, ⟨q.1, q.2.1, by rw [hp.2.1]; exact q.2.2⟩, r⟩, hst⟩
theorem g_ldcS (C : Cx w Z own bytes ml rt nm R n0 Q Y) (CW : LvW w R n0 Q Y) {i m k' n' : Nat} {text : String} (w1 : (Jvm.Cond.stringLink own i text).before a0 Z = true) (wS : ∀ d ∈ Bundle.stringAtoms, d.before a0 Z = true) (hd : decode bytes pc = .ok (.ldc i, 2)) (hp : pc + 2 = pc') (hm : 4 * text.toList.length ≤ m) (hbig : m ≤ 536870912) (hk : k + 2 = k') (hn : n + (m + 4) = n') (hc : k' ≤ R.cells) (hs : n' ≤ R.slots)
    (G : ∀ (w : Wk) (h' : Heap) (a : Addr), Cx w Z own bytes ml rt nm R n0 Q Y → LvW w R n0 Q Y → Ext h h' → Go w l R n0 Y h' k' n' pc' Ls (.ref a :: st)) : Go w l R n0 Y h k n pc Ls st := by
  subst hp hk hn
  intro T locs X hT hn N
  obtain ⟨a, T', h', k1, X', e', E, hS, hk1, -, -, s'⟩ := ldcS (s := w.s) (vm0 := w.s.vm) X C.hx C.hZ C.hown w1 wS hT (k0 := 0) ((State.WarmedH.refl w.s).since 0) (Nat.zero_le _) (g := mkF w.m pc Ls st) rfl (C.d hd) hm hbig hc hs
  have hS' : w.s.Since T'.vm h'.size := ⟨hS.1, hS.2.mono hk1⟩
  obtain ⟨s₂, o, h1, h2⟩ := G (w.reb T'.vm h'.size) h' a (C.reb CW hS' (Nat.le_trans hn.2 E.1)) (CW.reb hS' (Nat.le_trans hn.2 E.1)) E T' locs X' e' ⟨Nat.le_trans hn.1 E.1, Nat.le_refl _⟩ N
  exact ⟨s₂, o, s' _ h1, h2⟩
section CallsW
variable {y y' : MethodName} {yb : ByteArray} {yl : Nat} {yr : Option FieldType} {rm : Room} {Qc : Option Value → Heap → Prop} {W i k' n' : Nat} {argsL : List Value} {cl : String}
theorem g_staticS (C : Cx w Z own bytes ml rt nm R n0 Q Y) (CW : LvW w R n0 Q Y) (w1 : (Jvm.Cond.methodLink own i y).before a0 Z = true) (w2 : (Jvm.Cond.static y).before a0 Z = true) (w3 : (Jvm.Cond.initialized y.cls).before a0 Z = true) (w4 : (Jvm.Cond.code y yb yl yr).before a0 Z = true) (hy : y.cls ≠ "java/lang/invoke/MethodHandle" ∧ y.cls ≠ "java/lang/invoke/VarHandle")
    (hd : decode bytes pc = .ok (.invokestatic i, 3)) (hp : pc + 3 = pc') (hlen : ∀ sig, parseMethodDescriptor y.desc = some sig → argsL.length = sig.parameters.length) (hst : st = argsL.reverse ++ rest) (hW : (rest.map fun v => v.category).sum ≤ W) (hml : Ls.size = ml)
    (B : n0 ≤ h.size → BackS l R w.p w.e w.below w.s w.as y 3 W (PreB R h rm argsL.toArray) (PostB n0 rm Qc)) (hk : k + rm.cells = k') (hn : n + rm.slots = n') (hc : k' ≤ R.cells) (hs : n' ≤ R.slots)
    (G : ∀ (w : Wk) (v : Option Value) (h' : Heap), Cx w Z own bytes ml rt nm R n0 Q Y → LvW w R n0 Q Y → Qc v h' → Go w l R n0 Y h' k' n' pc' Ls (v.toList ++ rest)) : Go w l R n0 Y h k n pc Ls st := by
  subst hp hk hn
  intro T locs X hT hn N
  obtain ⟨v, vm₁, ⟨TB, LB, kB, nB⟩, -, X', hS, hgr, ⟨L, hQ, l1, l2, l3⟩, s'⟩ := callSS X C.hx C.hown (mvT C.hZ w1) (mvT C.hZ w2) (mvT C.hZ w3) (mvT C.hZ w4) hy (B hn.1) (g := mkF w.m pc Ls st) rfl (by rw [C.hml]; exact hml) (argsL := argsL) (rest := rest) hlen hst (by simpa using hW) (C.d hd) (fun vm₁ h₁ => ⟨rfl, hT, hc, hs⟩)
  dsimp only [Pt.U, Pt.locs, Pt.cells, Pt.slots] at X' l1 l2 l3 s' hQ hS hgr
  subst l1 l2 l3
  have hk : w.kk ≤ TB.heap.size := Nat.le_trans hn.2 (hT ▸ hgr)
  obtain ⟨s₂, o, h1, h2⟩ := G (w.reb TB.vm TB.heap.size) v TB.heap (C.reb CW hS hk) (CW.reb hS hk) hQ.1 TB _ X' rfl ⟨Nat.le_trans hn.1 (hT ▸ hgr), Nat.le_refl _⟩ (N.app hQ.2.1)
  exact ⟨s₂, o, s'.trans h1, h2⟩
theorem g_specialS (C : Cx w Z own bytes ml rt nm R n0 Q Y) (CW : LvW w R n0 Q Y) {yl0 : Nat} {yb0 : ByteArray} (hy1 : y.name = "<init>") (w1 : (Jvm.Cond.methodLink own i y).before a0 Z = true) (w2 : (Jvm.Cond.instanceMethod y).before a0 Z = true) (w4 : (Jvm.Cond.code y yb0 yl0 none).before a0 Z = true) (hy : y.cls ≠ "java/lang/invoke/MethodHandle" ∧ y.cls ≠ "java/lang/invoke/VarHandle")
    (hd : decode bytes pc = .ok (.invokespecial i, 3)) (hp : pc + 3 = pc') (hlen : ∀ sig, parseMethodDescriptor y.desc = some sig → argsL.length = sig.parameters.length) (hst : st = argsL.reverse ++ .ref a :: rest) (hW : (rest.map fun v => v.category).sum ≤ W) (hml : Ls.size = ml)
    (B : n0 ≤ h.size → BackS l R w.p w.e w.below w.s w.as y 3 W (PreB R h rm (.ref a :: argsL).toArray) (PostB n0 rm Qc)) (hk : k + rm.cells = k') (hn : n + rm.slots = n') (hc : k' ≤ R.cells) (hs : n' ≤ R.slots)
    (G : ∀ (w : Wk) (v : Option Value) (h' : Heap), Cx w Z own bytes ml rt nm R n0 Q Y → LvW w R n0 Q Y → Qc v h' → Go w l R n0 Y h' k' n' pc' Ls (v.toList ++ rest)) : Go w l R n0 Y h k n pc Ls st := by
  subst hp hk hn
  intro T locs X hT hn N
  obtain ⟨v, vm₁, ⟨TB, LB, kB, nB⟩, -, X', hS, hgr, ⟨L, hQ, l1, l2, l3⟩, s'⟩ := X.specialBackS C.hx hy1 C.hown (mvT C.hZ w1) (mvT C.hZ w2) (mvT C.hZ w4) hy (B hn.1) (g := mkF w.m pc Ls st) rfl (by rw [C.hml]; exact hml) (Steps.refl _) (a := a) (argsL := argsL) (rest := rest) hlen hst (by simpa using hW) (C.d hd) (fun vm₁ h₁ => ⟨rfl, hT, hc, hs⟩)
  dsimp only [Pt.U, Pt.locs, Pt.cells, Pt.slots] at X' l1 l2 l3 s' hQ hS hgr
  subst l1 l2 l3
  have hk : w.kk ≤ TB.heap.size := Nat.le_trans hn.2 (hT ▸ hgr)
  obtain ⟨s₂, o, h1, h2⟩ := G (w.reb TB.vm TB.heap.size) v TB.heap (C.reb CW hS hk) (CW.reb hS hk) hQ.1 TB _ X' rfl ⟨Nat.le_trans hn.1 (hT ▸ hgr), Nat.le_refl _⟩ (N.app hQ.2.1)
  exact ⟨s₂, o, s'.trans h1, h2⟩
theorem g_virtualS (C : Cx w Z own bytes ml rt nm R n0 Q Y) (CW : LvW w R n0 Q Y) (w1 : (Jvm.Cond.methodLink own i y).before a0 Z = true) (w2 : (Jvm.Cond.declares y).before a0 Z = true) (nf : NotFace w.s y) (w3 : (Jvm.Cond.selects cl y y').before a0 Z = true) (w4 : (Jvm.Cond.instanceMethod y').before a0 Z = true) (hy : y.cls ≠ "java/lang/invoke/MethodHandle" ∧ y.cls ≠ "java/lang/invoke/VarHandle") (E : Exa Z h a cl)
    (hd : decode bytes pc = .ok (.invokevirtual i, 3)) (hp : pc + 3 = pc') (hlen : ∀ sig, parseMethodDescriptor y.desc = some sig → argsL.length = sig.parameters.length) (hst : st = argsL.reverse ++ .ref a :: rest) (hW : (rest.map fun v => v.category).sum ≤ W) (hml : Ls.size = ml)
    (B : n0 ≤ h.size → BackS l R w.p w.e w.below w.s w.as y' 3 W (PreB R h rm (.ref a :: argsL).toArray) (PostB n0 rm Qc)) (hk : k + rm.cells = k') (hn : n + rm.slots = n') (hc : k' ≤ R.cells) (hs : n' ≤ R.slots)
    (G : ∀ (w : Wk) (v : Option Value) (h' : Heap), Cx w Z own bytes ml rt nm R n0 Q Y → LvW w R n0 Q Y → Qc v h' → Go w l R n0 Y h' k' n' pc' Ls (v.toList ++ rest)) : Go w l R n0 Y h k n pc Ls st := by
  subst hp hk hn
  intro T locs X hT hn N
  obtain ⟨cq, kq, qa, qb, qc⟩ := isOf C.hZ hT E
  obtain ⟨v, vm₁, ⟨TB, LB, kB, nB⟩, -, X', hS, hgr, ⟨L, hQ, l1, l2, l3⟩, s'⟩ := X.virtualBackS C.hx C.hown (mvT C.hZ w1) (mvT C.hZ w2) nf (mvT C.hZ w3) (mvT C.hZ w4) hy (B hn.1) qa qc (g := mkF w.m pc Ls st) rfl (by rw [C.hml]; exact hml) (Steps.refl _) (argsL := argsL) (rest := rest) hlen hst (by simpa using hW) (C.d hd) (fun vm₁ h₁ => ⟨rfl, hT, hc, hs⟩)
  dsimp only [Pt.U, Pt.locs, Pt.cells, Pt.slots] at X' l1 l2 l3 s' hQ hS hgr
  subst l1 l2 l3
  have hk : w.kk ≤ TB.heap.size := Nat.le_trans hn.2 (hT ▸ hgr)
  obtain ⟨s₂, o, h1, h2⟩ := G (w.reb TB.vm TB.heap.size) v TB.heap (C.reb CW hS hk) (CW.reb hS hk) hQ.1 TB _ X' rfl ⟨Nat.le_trans hn.1 (hT ▸ hgr), Nat.le_refl _⟩ (N.app hQ.2.1)
  exact ⟨s₂, o, s'.trans h1, h2⟩
end CallsW
end OwnWide
/-! a constant whose text is read, in a walk that has loaded none before it -/
def Arw (Z : State) (h : Heap) (a : Addr) (ty : FieldType) (z : Int32) (f : Nat → Value) : Prop := ∃ c : Cell, Arr Z h a c ty ∧ c.slots.size = z.toNatClampNeg ∧ ¬ z < 0 ∧ ∀ i, i < c.slots.size → c.slots[i]? = some (f i) ∧ fits ty (f i) = true
def MetWI (l : Launch) (Z : State) (y : MethodName) (bytes : ByteArray) (ml : Nat) (rt : Option FieldType) (rm : Room) (n0 : Nat) (h0 : Heap) (as' : Array Value) (Q : Option Value → Heap → Prop) : Prop :=
  n0 ≤ h0.size → ∀ ws, MetFree l y (head1 (Jvm.Cond.code y bytes ml rt :: ws) rm) (fun a U => a = as' ∧ Z.Warmed39 U.vm ∧ U.heap = h0 ∧ U.vm.interned = Z.vm.interned) (fun _ _ _ _ _ => True) (fun _ U o U' => ∃ v L, o = .returned v ∧ (Q v U'.heap ∧ Fr n0 L ∧ h0.size ≤ U'.heap.size) ∧ ReturnedEndW U o U' L rm.cells rm.slots)
section OwnHeld
variable {w : Wk} {l : Launch} {R : Room} {Z : State} {a0 : Array Value} {own : String} {bytes : ByteArray} {ml : Nat} {rt : Option FieldType} {nm : String} {n0 : Nat} {Q : Option Value → Heap → Prop} {Y : State → Outcome → Prop} {h h' : Heap} {k n pc pc' : Nat} {Ls Ls' : Array Slot} {st rest : List Value} {a : Addr} {ty : FieldType} {z : Int32} {f : Nat → Value}
theorem Arw.of_arv {kc : ClassId} {vs : List Value} {d : Value} (V : Arv Z h a kc ty z vs d) : Arw Z h a ty z (fun i => vs.getD i d) := by
  obtain ⟨c, A, -, S, N, H, G⟩ := V
  exact ⟨c, A, S, N, fun i hi => ⟨H i hi, G i hi⟩⟩
theorem Arw.of_arf {ad : String} (F : Arf Z h a ad ty z f) : Arw Z h a ty z f := F.2
theorem Arw.lt (F : Arw Z h a ty z f) : a < h.size := by obtain ⟨c, A, -⟩ := F; exact A.lt
theorem Arw.ext (F : Arw Z h a ty z f) (E : Ext h h') : Arw Z h' a ty z f := by
  obtain ⟨c, A, r⟩ := F; exact ⟨c, A.ext E, r⟩
theorem Arw.keep {ws : List Addr} (F : Arw Z h a ty z f) (K : Keep h h' ws) (q : a ∉ ws) : Arw Z h' a ty z f := by
  obtain ⟨c, A, r⟩ := F; exact ⟨c, ⟨K.2.1 _ _ A.1 q, A.2⟩, r⟩
theorem g_baloadW (C : Cx w Z own bytes ml rt nm R n0 Q Y) {j : Int32} {v : Value} (F : Arw Z h a .byte z f) (hj : ¬ j < 0) (hz : j < z) (hv : f j.toNatClampNeg = v) (hd : decode bytes pc = .ok (.baload, 1)) (hp : pc + 1 = pc')
    (G : Go w l R n0 Y h k n pc' Ls (v :: rest)) : Go w l R n0 Y h k n pc Ls (.int j :: .ref a :: rest) := by
  subst hp
  obtain ⟨c, A, S, -, r⟩ := F
  exact Go.stand (fun T t locs X hT K => X.baloadBytes C.hx (j := j) (v := v) (by rw [hT]; exact A.1) (State.isArrayOf_alike C.hZ.alike A.2.1) A.2.2 (inb_of S ⟨hj, hz⟩) (by rw [(r _ (by rw [S]; exact nat_lt hj hz)).1, hv]) (g := mkF w.m pc Ls (.int j :: .ref a :: rest)) rfl rfl (C.d hd) _ K) G
theorem g_lenW (C : Cx w Z own bytes ml rt nm R n0 Q Y) (F : Arw Z h a ty z f) (hd : decode bytes pc = .ok (.arraylength, 1)) (hp : pc + 1 = pc') (G : Go w l R n0 Y h k n pc' Ls (.int z :: rest)) : Go w l R n0 Y h k n pc Ls (.ref a :: rest) := by
  subst hp
  obtain ⟨c, A, S, M, r⟩ := F
  refine Go.stand (fun T t locs X hT K => X.arraylength C.hx (by rw [hT]; exact A.1) (State.isArrayOf_alike C.hZ.alike A.2.1) (g := mkF w.m pc Ls (.ref a :: rest)) rfl rfl (C.d hd) _ ?_) G
  rw [len_of S M]; exact K
theorem MetWI.intro {y : MethodName} {rm : Room} {h0 : Heap} {as' : Array Value} (hp : plainFor y = true) (hef : ∀ m, entryFrame m as' ml = mkF m 0 Ls [])
    (H : ∀ (w : Wk) (Y : State → Outcome → Prop), Cx w Z y.cls bytes ml rt y.name rm n0 Q Y → LvW w rm n0 Q Y → w.s.heap = h0 → w.s.vm.interned = Z.vm.interned → Go w l rm n0 Y h0 0 0 0 Ls []) : MetWI l Z y bytes ml rt rm n0 h0 as' Q := by
  intro hn ws
  refine MetFree.of_bodySF hp hisR ?_
  intro p e s m args below meth c s₁ Bd hml0 hP hK
  obtain ⟨rfl, hZ, hh, hI⟩ := hP
  have X0 : Stand p l e rm s m args below meth c s₁ [] 0 0 := Stand.of_body Bd
  have e0 : s₁.heap = h0 := by rw [← hh, Bd.state]; rfl
  obtain ⟨s₂, o, g1, g2, g3, g4⟩ := H (p, e, s, m, args, below, meth, c, h0.size) _ ⟨Bd.exec, Bd.bytes, hml0, findClass_of_methodNamed Bd.named, hZ, Bd.returns, BodyLoose.notSynchronized Bd, (name_of_methodNamed Bd.named Bd.method).1, Lv.wid _ _ _ _⟩ (LvW.wid _ _ _ _) hh hI s₁ [] X0 e0 ⟨hn, Nat.le_refl _⟩ (Fr.nil n0)
  exact ⟨s₂, o, castTop (hef m) g1, g2, g3, g4⟩
theorem MetWI.back {y : MethodName} {yb : ByteArray} {yl : Nat} {yr : Option FieldType} {rm : Room} {as' : Array Value} {Qc : Option Value → Heap → Prop} {W len : Nat} (M : MetWI l Z y yb yl yr rm n0 h as' Qc) (hn : n0 ≤ h.size) (hZ : Z.Warmed39 w.s.vm) (hI : w.s.vm.interned = Z.vm.interned) (wc : (Jvm.Cond.code y yb yl yr).before a0 Z = true) (wz : (Jvm.Cond.initialized y.cls).before a0 Z = true) (hf : rm.frames + 1 ≤ R.frames) (hl : W + (yl + 11) + rm.locals ≤ R.locals) :
    BackS l R w.p w.e w.below w.s w.as y len W (PreB R h rm as') (PostB n0 rm Qc) :=
  BackS.of_freeW (bytes := yb) (maxL := yl) (ret := yr) (E := fun _ _ o t L k n => k = rm.cells ∧ n = rm.slots ∧ ∃ v, o = .returned v ∧ Qc v t.heap ∧ Fr n0 L ∧ h.size ≤ t.heap.size) (M hn []) hf hl
    (fun m meth c A a V q => have hU : Z.Warmed39 A.U.vm := wtrans hZ V.warmed
      ⟨by show (Cond.and _ .tt).before a A.U = true; rw [Cond.before_and, mv hU wc]; rfl, mv hU wc, mv hU wz, q.2.2.1, q.2.2.2⟩)
    (fun m meth c A a g mk V q => ⟨q.1, wtrans hZ V.warmed, q.2.1, V.warmed.interned_eq.trans hI⟩) (fun _ _ _ _ _ _ _ _ _ => trivial)
    (fun _ _ _ _ ⟨v, L, u1, u2, u3⟩ => ⟨L, _, _, u3, rfl, rfl, v, u1, u2.1, u2.2.1, u2.2.2⟩)
    (fun m meth c A a g mk v t L k n V q _ _ ⟨e1, e2, v', e3, e4, e5, e6⟩ => by cases e3; subst e1 e2; exact ⟨L, ⟨e4, e5, by rw [q.2.1]; exact e6⟩, rfl, rfl, rfl⟩)
theorem Arw.other {b : Addr} {sl : Nat} {v : Value} (F : Arw Z h b ty z f) (W : Wr h h' a sl v) (q : b ≠ a) : Arw Z h' b ty z f := by
  obtain ⟨c, A, r⟩ := F; exact ⟨c, A.other W q, r⟩
theorem Arw.congr {g : Nat → Value} (F : Arw Z h a ty z f) (q : ∀ i, i < z.toNatClampNeg → f i = g i) : Arw Z h a ty z g := by
  obtain ⟨c, A, S, N, r⟩ := F; exact ⟨c, A, S, N, fun i hi => by rw [← q i (S ▸ hi)]; exact r i hi⟩
theorem Lv.up {n1 : Nat} (L : Lv w R n0 Q Y) (h01 : n0 ≤ n1) : Lv w R n1 Q Y := fun T fs locs k n v hW hs N hk hc hn hQ => L T fs locs k n v hW hs (fun y hy => Nat.le_trans h01 (N y hy)) hk hc hn hQ
theorem Cx.up {n1 : Nat} (C : Cx w Z own bytes ml rt nm R n0 Q Y) (h01 : n0 ≤ n1) : Cx w Z own bytes ml rt nm R n1 Q Y := ⟨C.1, C.2.1, C.2.2.1, C.2.2.2.1, C.2.2.2.2.1, C.2.2.2.2.2.1, C.2.2.2.2.2.2.1, C.2.2.2.2.2.2.2.1, C.lv.up h01⟩
theorem MetWI.intro1 {y : MethodName} {rm : Room} {h0 : Heap} {as' : Array Value} (hp : plainFor y = true) (hef : ∀ m, entryFrame m as' ml = mkF m 0 Ls [])
    (H : ∀ (w : Wk) (Y : State → Outcome → Prop), Cx w Z y.cls bytes ml rt y.name rm n0 Q Y → LvW w rm n0 Q Y → w.s.heap = h0 → w.s.vm.interned = Z.vm.interned → n0 ≤ h0.size → Go w l rm h0.size Y h0 0 0 0 Ls []) : MetWI l Z y bytes ml rt rm n0 h0 as' Q := by
  intro hn ws
  refine MetFree.of_bodySF hp hisR ?_
  intro p e s m args below meth c s₁ Bd hml0 hP hK
  obtain ⟨rfl, hZ, hh, hI⟩ := hP
  have X0 : Stand p l e rm s m args below meth c s₁ [] 0 0 := Stand.of_body Bd
  have e0 : s₁.heap = h0 := by rw [← hh, Bd.state]; rfl
  obtain ⟨s₂, o, g1, g2, g3, g4⟩ := H (p, e, s, m, args, below, meth, c, h0.size) _ ⟨Bd.exec, Bd.bytes, hml0, findClass_of_methodNamed Bd.named, hZ, Bd.returns, BodyLoose.notSynchronized Bd, (name_of_methodNamed Bd.named Bd.method).1, Lv.wid _ _ _ _⟩ (LvW.wid _ _ _ _) hh hI hn s₁ [] X0 e0 ⟨Nat.le_refl _, Nat.le_refl _⟩ (Fr.nil _)
  exact ⟨s₂, o, castTop (hef m) g1, g2, g3, g4⟩
theorem g_ldcV (C : Cx w Z own bytes ml rt nm R n0 Q Y) (CW : LvW w R n0 Q Y) {n1 i m k' n' : Nat} {text : String} {vs : List Value} (hN : w.s.heap.size = n1) (h01 : n0 ≤ n1) (hk0 : Ext Z.heap w.s.heap) (hI : w.s.vm.interned = Z.vm.interned) (w1 : (Jvm.Cond.stringLink own i text).before a0 Z = true) (wS : ∀ d ∈ Bundle.stringAtoms, d.before a0 Z = true) (hh : Jvm.Lit.constHeld Z own i) (hcw : Jvm.Lit.compactW.before a0 Z = true)
    (ht : (∀ c ∈ text.toList, c.toNat < 256) ∧ text.toList.map (fun c => Value.int (Jvm.Lit.byteI c.toNat.toUInt16)) = vs) (hz : ¬ z < 0) (hl : z.toNatClampNeg = vs.length) (hd : decode bytes pc = .ok (.ldc i, 2)) (hp : pc + 2 = pc') (hm : 4 * text.toList.length ≤ m) (hbig : m ≤ 536870912) (hk : k + 2 = k') (hn : n + (m + 4) = n') (hc : k' ≤ R.cells) (hs : n' ≤ R.slots)
    (G : ∀ (w : Wk) (h' : Heap) (a b : Addr) (kb : ClassId), Cx w Z own bytes ml rt nm R n0 Q Y → LvW w R n0 Q Y → Ext h h' → Exa Z h' a "java/lang/String" → Fld Z h' a "java/lang/String" "coder" "B" (.int 0) → Fld Z h' a "java/lang/String" "value" "[B" (.ref b) → Arv Z h' b kb .byte z vs (.int 0) → Lit w.s own i a → Go w l R n0 Y h' k' n' pc' Ls (.ref a :: st)) : Go w l R n1 Y h k n pc Ls st := by
  subst hp hk hn hN
  intro T locs X hT hn N
  obtain ⟨a, T', h', k1, b, kc, X', e', E, hS, hk1, -, -, q1, q2, q3, q4, -, -, -, q5, s'⟩ := ldcSVL (s := w.s) (vm0 := w.s.vm) X C.hx C.hZ C.hown w1 wS hT (k0 := 0) ((State.WarmedH.refl w.s).since 0) (Nat.zero_le _) N hk0.2 (Ts := []) ⟨#[], by rw [hI]; simp, fun q hq => by simp at hq⟩ (by simp) hh hcw ht hz hl (g := mkF w.m pc Ls st) rfl (C.d hd) hm hbig hc hs
  have hS' : w.s.Since T'.vm h'.size := ⟨hS.1, hS.2.mono hk1⟩
  obtain ⟨s₂, o, h1, h2⟩ := G (w.reb T'.vm h'.size) h' a b kc (C.reb CW hS' (Nat.le_trans hn.2 E.1)) (CW.reb hS' (Nat.le_trans hn.2 E.1)) E q1 q2 q3 q4 q5 T' locs X' e' ⟨Nat.le_trans h01 (Nat.le_trans hn.1 E.1), Nat.le_refl _⟩ (fun y hy => Nat.le_trans h01 (N y hy))
  exact ⟨s₂, o, s' _ h1, h2⟩
theorem g_ldcAgain (C : Cx w Z own bytes ml rt nm R n0 Q Y) {i : Nat} {text : String} (w1 : (Jvm.Cond.stringLink own i text).before a0 Z = true) (L : Lit w.s own i a) (hd : decode bytes pc = .ok (.ldc i, 2)) (hp : pc + 2 = pc') (G : Go w l R n0 Y h k n pc' Ls (.ref a :: st)) : Go w l R n0 Y h k n pc Ls st := by
  subst hp
  exact Go.stand (fun T t locs X hT K => ldcAgain (s := w.s) (vm0 := w.s.vm) X C.hx C.hZ C.hown w1 L (g := mkF w.m pc Ls st) rfl (C.d hd) t K) G
end OwnHeld
/-! a body with an exception table whose walk throws nothing -/
def MetH (l : Launch) (Z : State) (y : MethodName) (bytes : ByteArray) (ml : Nat) (rt : Option FieldType) (hs : List (Nat × Nat × Nat × Nat)) (rm : Room) (n0 : Nat) (h0 : Heap) (as' : Array Value) (Q : Option Value → Heap → Prop) : Prop :=
  n0 ≤ h0.size → ∀ ws, MetFree l y (head1 (Jvm.Cond.codeWith y bytes ml rt hs :: ws) rm) (fun a U => a = as' ∧ Z.Warmed39 U.vm ∧ U.heap = h0) (fun _ _ _ _ _ => True) (fun _ U o U' => ∃ v L, o = .returned v ∧ (Q v U'.heap ∧ Fr n0 L ∧ h0.size ≤ U'.heap.size) ∧ FrameEnd U o U' L rm.cells rm.slots)
def MetHI (l : Launch) (Z : State) (y : MethodName) (bytes : ByteArray) (ml : Nat) (rt : Option FieldType) (hs : List (Nat × Nat × Nat × Nat)) (rm : Room) (n0 : Nat) (h0 : Heap) (as' : Array Value) (Q : Option Value → Heap → Prop) : Prop :=
  n0 ≤ h0.size → ∀ ws, MetFree l y (head1 (Jvm.Cond.codeWith y bytes ml rt hs :: ws) rm) (fun a U => a = as' ∧ Z.Warmed39 U.vm ∧ U.heap = h0 ∧ U.vm.interned = Z.vm.interned) (fun _ _ _ _ _ => True) (fun _ U o U' => ∃ v L, o = .returned v ∧ (Q v U'.heap ∧ Fr n0 L ∧ h0.size ≤ U'.heap.size) ∧ ReturnedEndW U o U' L rm.cells rm.slots)
section OwnHand
variable {w : Wk} {l : Launch} {R : Room} {Z : State} {a0 : Array Value} {own : String} {bytes : ByteArray} {ml : Nat} {rt : Option FieldType} {nm : String} {n0 : Nat} {Q : Option Value → Heap → Prop} {Y : State → Outcome → Prop} {h h' : Heap} {k n pc pc' : Nat} {Ls Ls' : Array Slot} {st rest : List Value} {a : Addr} {hs : List (Nat × Nat × Nat × Nat)}
theorem MetH.intro {y : MethodName} {rm : Room} {h0 : Heap} {as' : Array Value} (hp : plainFor y = true) (hef : ∀ m, entryFrame m as' ml = mkF m 0 Ls [])
    (H : ∀ (w : Wk) (Y : State → Outcome → Prop), Cx w Z y.cls bytes ml rt y.name rm n0 Q Y → Go w l rm n0 Y h0 0 0 0 Ls []) : MetH l Z y bytes ml rt hs rm n0 h0 as' Q := by
  intro hn ws
  refine MetFree.of_bodySF hp hisWith ?_
  intro p e s m args below meth c s₁ Bd hml0 hP hK
  obtain ⟨rfl, hZ, hh⟩ := hP
  have X0 : Stand p l e rm s m args below meth c s₁ [] 0 0 := Stand.of_body Bd
  have e0 : s₁.heap = h0 := by rw [← hh, Bd.state]; rfl
  obtain ⟨s₂, o, g1, g2, g3, g4⟩ := H (p, e, s, m, args, below, meth, c, h0.size) _ ⟨Bd.exec, Bd.bytes, hml0, findClass_of_methodNamed Bd.named, hZ, Bd.returns, BodyLoose.notSynchronized Bd, (name_of_methodNamed Bd.named Bd.method).1, Lv.nar _ _ _ _⟩ s₁ [] X0 e0 ⟨hn, Nat.le_refl _⟩ (Fr.nil n0)
  exact ⟨s₂, o, castTop (hef m) g1, g2, g3, g4⟩
theorem MetHI.intro1 {y : MethodName} {rm : Room} {h0 : Heap} {as' : Array Value} (hp : plainFor y = true) (hef : ∀ m, entryFrame m as' ml = mkF m 0 Ls [])
    (H : ∀ (w : Wk) (Y : State → Outcome → Prop), Cx w Z y.cls bytes ml rt y.name rm n0 Q Y → LvW w rm n0 Q Y → w.s.heap = h0 → w.s.vm.interned = Z.vm.interned → n0 ≤ h0.size → Go w l rm h0.size Y h0 0 0 0 Ls []) : MetHI l Z y bytes ml rt hs rm n0 h0 as' Q := by
  intro hn ws
  refine MetFree.of_bodySF hp hisWith ?_
  intro p e s m args below meth c s₁ Bd hml0 hP hK
  obtain ⟨rfl, hZ, hh, hI⟩ := hP
  have X0 : Stand p l e rm s m args below meth c s₁ [] 0 0 := Stand.of_body Bd
  have e0 : s₁.heap = h0 := by rw [← hh, Bd.state]; rfl
  obtain ⟨s₂, o, g1, g2, g3, g4⟩ := H (p, e, s, m, args, below, meth, c, h0.size) _ ⟨Bd.exec, Bd.bytes, hml0, findClass_of_methodNamed Bd.named, hZ, Bd.returns, BodyLoose.notSynchronized Bd, (name_of_methodNamed Bd.named Bd.method).1, Lv.wid _ _ _ _⟩ (LvW.wid _ _ _ _) hh hI hn s₁ [] X0 e0 ⟨Nat.le_refl _, Nat.le_refl _⟩ (Fr.nil _)
  exact ⟨s₂, o, castTop (hef m) g1, g2, g3, g4⟩
def OvrN (Z : State) (ad cl : String) : Prop := ∃ k : ClassId, Z.vm.findClass ad = some k ∧ Ovr Z k cl
theorem g_anewarr (C : Cx w Z own bytes ml rt nm R n0 Q Y) {i : Nat} {cl ad : String} {z : Int32} {cap : Nat} (w1 : (Jvm.Cond.classLink own i cl).before a0 Z = true) (w2 : (Jvm.Cond.arrayOver (.object cl)).before a0 Z = true) (hd : decode bytes pc = .ok (.anewarray i, 3)) (hp : pc + 3 = pc') (had : "[" ++ (FieldType.object cl).toString = ad) (hz : ¬ z < 0) (hcap : z.toNatClampNeg ≤ cap) (hb : cap * 8 ≤ 536870912) {k' n' : Nat} (hk : k + 1 = k') (hn : n + cap = n') (hc : k' ≤ R.cells) (hs : n' ≤ R.slots)
    (G : ∀ (h' : Heap) (b : Addr), Ext h h' → h.size ≤ b → n0 ≤ b → Arf Z h' b ad (.object cl) z (fun _ => .null) → OvrN Z ad cl → Go w l R n0 Y h' k' n' pc' Ls (.ref b :: rest)) : Go w l R n0 Y h k n pc Ls (.int z :: rest) := by
  subst hp hk hn
  intro T locs X hT hn N
  obtain ⟨T', h', cA, X', e', E, A, Ex, O, s'⟩ := newRE X C.hx C.hZ C.hown w1 w2 hT (g := mkF w.m pc Ls (.int z :: rest)) rfl (C.d hd) rfl hz hcap hb hc hs had
  have V : OvrN Z ad cl := by
    obtain ⟨cell, kk, e1, e2, -⟩ := Ex
    cases e1.symm.trans A.1
    exact ⟨_, e2, O⟩
  obtain ⟨s₂, o, h1, h2⟩ := G h' _ E (Nat.le_refl _) hn.1 ⟨Ex, _, A, sz_new _ _ _, hz, fun i hi => ⟨by rw [sz_new] at hi; simp [newA, hi, defaultValue], rfl⟩⟩ V T' locs X' e' (own_grow hn E.1) N
  exact ⟨s₂, o, s' _ h1, h2⟩
theorem g_aastore (C : Cx w Z own bytes ml rt nm R n0 Q Y) {cl ad : String} {z j : Int32} {f : Nat → Value} {y : Addr} (V : OvrN Z ad cl) (F : Arf Z h a ad (.object cl) z f) (hj : ¬ j < 0) (hz : j < z) (I : Ins Z h y cl true) (hd : decode bytes pc = .ok (.aastore, 1)) (hp : pc + 1 = pc') (ge : n0 ≤ a)
    (G : ∀ (h' : Heap), Wr h h' a j.toNatClampNeg (.ref y) → Arf Z h' a ad (.object cl) z (upd f j.toNatClampNeg (.ref y)) → Go w l R n0 Y h' k n pc' Ls rest) : Go w l R n0 Y h k n pc Ls (.ref y :: .int j :: .ref a :: rest) := by
  subst hp
  intro T locs X hT hn N
  obtain ⟨e, c, A, S, -⟩ := id F
  obtain ⟨kk, v1, v2⟩ := V
  have q : c.cls = kk := by
    obtain ⟨cell, k2, e1, e2, -⟩ := e
    cases e1.symm.trans A.1
    exact Option.some.inj (e2.symm.trans v1)
  obtain ⟨T', h', X', e', W, s'⟩ := stR X C.hx C.hZ hT A (j := j) (v := .ref y) (inb_of S ⟨hj, hz⟩) rfl (Sto.ofV A q v2 I) (g := mkF w.m pc Ls (.ref y :: .int j :: .ref a :: rest)) rfl rfl (C.d hd)
  obtain ⟨s₂, o, h1, h2⟩ := G h' W (F.set W rfl hj) T' _ X' e' (by rw [W.size]; exact hn) (Fr.snoc X' N ge)
  exact ⟨s₂, o, s' _ h1, h2⟩
section CallsH
variable {y : MethodName} {yb : ByteArray} {yl : Nat} {yr : Option FieldType} {rm : Room} {Qc : Option Value → Heap → Prop} {W i k' n' : Nat} {argsL : List Value} {as' : Array Value} {len : Nat}
theorem MetH.back (M : MetH l Z y yb yl yr hs rm n0 h as' Qc) (hn : n0 ≤ h.size) (hZ : Z.Warmed39 w.s.vm) (wc : (Jvm.Cond.codeWith y yb yl yr hs).before a0 Z = true) (wz : (Jvm.Cond.initialized y.cls).before a0 Z = true) (hf : rm.frames + 1 ≤ R.frames) (hl : W + (yl + 11) + rm.locals ≤ R.locals) :
    Back l R w.p w.e w.below w.s w.as y len W (PreB R h rm as') (PostB n0 rm Qc) :=
  Back.mono (backOfWith (W := W) (Q := fun v h' L => Qc v h' ∧ Fr n0 L ∧ h.size ≤ h'.size) (M hn []) hZ wc wz hf hl) (fun P a hp => hp) (fun P a v B hp hq => by
    obtain ⟨L, q, r⟩ := hq
    exact ⟨L, ⟨q.1, q.2.1, by rw [hp.2.1]; exact q.2.2⟩, r⟩)
theorem own_leW {x W m yl rl RL : Nat} (h : x ≤ W) (e : m = yl) (hl : W + (yl + 11) + rl ≤ RL) : x + (m + 11) + rl ≤ RL := by omega
/-- what a call has left, read as the caller's own state -/
theorem own_land {U t : State} {g g' : JFrame} {mk : MethodId} {xs : Array Value} (hj : U.topJava?.isSome) (e : ({ t with vm := (U.calling g mk xs).vm } : State) = { (U.calling g mk xs).setFrames t.frames with heap := t.heap, slotsUsed := t.slotsUsed }) (hf : t.frames = .java g' :: U.frames.tail) :
    t = (({ U with heap := t.heap, slotsUsed := t.slotsUsed } : State).setVm t.vm).setTop g' := by
  obtain ⟨g₀, h0⟩ := Option.isSome_iff_exists.mp hj
  obtain ⟨r, hr⟩ := State.topJava?_eq_some.mp h0
  have e' := congrArg (fun z : State => z.setVm t.vm) e
  rw [hf, State.calling_eq hj, State.setFrames_setFrames] at e'
  rw [State.setTop_of_frames _ (show (({ U with heap := t.heap, slotsUsed := t.slotsUsed } : State).setVm t.vm).frames = .java g₀ :: r from hr)]
  rw [hr] at e'
  exact e'
theorem g_specialH (C : Cx w Z own bytes ml rt nm R n0 Q Y) {yl0 : Nat} {yb0 : ByteArray} (hy1 : y.name = "<init>") (w1 : (Jvm.Cond.methodLink own i y).before a0 Z = true) (w2 : (Jvm.Cond.instanceMethod y).before a0 Z = true) (w4 : (Jvm.Cond.codeWith y yb0 yl0 none hs).before a0 Z = true) (hy : y.cls ≠ "java/lang/invoke/MethodHandle" ∧ y.cls ≠ "java/lang/invoke/VarHandle")
    (hd : decode bytes pc = .ok (.invokespecial i, 3)) (hp : pc + 3 = pc') (hlen : ∀ sig, parseMethodDescriptor y.desc = some sig → argsL.length = sig.parameters.length) (hst : st = argsL.reverse ++ .ref a :: rest) (hW : (rest.map fun v => v.category).sum ≤ W) (hml : Ls.size = ml)
    (B : n0 ≤ h.size → Back l R w.p w.e w.below w.s w.as y 3 W (PreB R h rm (.ref a :: argsL).toArray) (PostB n0 rm Qc)) (hk : k + rm.cells = k') (hn : n + rm.slots = n') (hc : k' ≤ R.cells) (hs : n' ≤ R.slots)
    (G : ∀ (v : Option Value) (h' : Heap), Qc v h' → Go w l R n0 Y h' k' n' pc' Ls (v.toList ++ rest)) : Go w l R n0 Y h k n pc Ls st := by
  subst hp hk hn
  intro T locs X hT hn N
  obtain ⟨v, vm₁, ⟨TB, LB, kB, nB⟩, -, X', ⟨L, hQ, l1, l2, l3⟩, s'⟩ := X.specialBackH C.hx hy1 C.hown (mvT C.hZ w1) (mvT C.hZ w2) (mv C.hZ w4) hy (B hn.1) (g := mkF w.m pc Ls st) rfl (by rw [C.hml]; exact hml) (Steps.refl _) (a := a) (argsL := argsL) (rest := rest) hlen hst (by simpa using hW) (C.d hd) (fun vm₁ h₁ => ⟨rfl, hT, hc, hs⟩)
  dsimp only [Pt.U, Pt.locs, Pt.cells, Pt.slots] at X' l1 l2 l3 s' hQ
  subst l1 l2 l3
  obtain ⟨s₂, o, h1, h2⟩ := G v TB.heap hQ.1 TB _ X' rfl (own_grow hn (hT ▸ hQ.2.2)) (N.app hQ.2.1)
  exact ⟨s₂, o, s'.trans h1, h2⟩
theorem g_specialHS (C : Cx w Z own bytes ml rt nm R n0 Q Y) (CW : LvW w R n0 Q Y) (hy1 : y.name = "<init>") (w1 : (Jvm.Cond.methodLink own i y).before a0 Z = true) (w2 : (Jvm.Cond.instanceMethod y).before a0 Z = true) (w4 : (Jvm.Cond.codeWith y yb yl none hs).before a0 Z = true) (wz : (Jvm.Cond.initialized y.cls).before a0 Z = true) (hy : y.cls ≠ "java/lang/invoke/MethodHandle" ∧ y.cls ≠ "java/lang/invoke/VarHandle")
    (hd : decode bytes pc = .ok (.invokespecial i, 3)) (hp : pc + 3 = pc') (hlen : ∀ sig, parseMethodDescriptor y.desc = some sig → argsL.length = sig.parameters.length) (hst : st = argsL.reverse ++ .ref a :: rest) (hW : (rest.map fun v => v.category).sum ≤ W) (hml : Ls.size = ml)
    (M : MetHI l Z y yb yl none hs rm n0 h (.ref a :: argsL).toArray Qc) (hI : w.s.vm.interned = Z.vm.interned) (hf : rm.frames + 1 ≤ R.frames) (hl : W + (yl + 11) + rm.locals ≤ R.locals) (hk : k + rm.cells = k') (hn : n + rm.slots = n') (hc : k' ≤ R.cells) (hsl : n' ≤ R.slots)
    (G : ∀ (w : Wk) (v : Option Value) (h' : Heap), Cx w Z own bytes ml rt nm R n0 Q Y → LvW w R n0 Q Y → Qc v h' → Go w l R n0 Y h' k' n' pc' Ls (v.toList ++ rest)) : Go w l R n0 Y h k n pc Ls st := by
  subst hp hk hn
  intro T locs X hT hn N
  obtain ⟨mk, -, -, -, vm₁, hnm, -, -, -, -, -, -, -, hW₁, go⟩ := Steps.initColdArgsH (e := w.e) (args := w.as) X.here C.hx X.warmed (by rw [X.admits.platform]) C.hown hy1 hy (mvT C.hZ w1) (mvT C.hZ w2) (mv C.hZ w4) (f := mkF w.m pc Ls st) rfl hlen hst (C.d hd)
  have X₁ := X.noted hW₁
  have hZ₁ : Z.Warmed39 (T.setVm vm₁).vm := wtrans C.hZ X₁.warmed
  have hY := X₁.named hnm
  have wc₁ : (Jvm.Cond.codeWith y yb yl none hs).before (.ref a :: argsL).toArray (T.setVm vm₁) = true := mv hZ₁ w4
  obtain ⟨mY, methY, cY, hY', hmY, hcY, -, hlY, -⟩ := Cond.codeWith_spec wc₁
  cases hY.symm.trans hY'
  obtain ⟨kY, hkY, -⟩ := className_of_methodNamed hY
  have wz₁ : (Jvm.Cond.initialized y.cls).before (.ref a :: argsL).toArray (T.setVm vm₁) = true := mv hZ₁ wz
  have happ := Spec.appliesLoose_calling (S := head1 [Jvm.Cond.codeWith y yb yl none hs] rm) (g := { mkF w.m pc Ls st with stack := rest }) X₁.here (C.d hd) hY hkY (Cond.initialized_spec (findClass_of_methodNamed hY) hkY wz₁)
    (X₁.room_calling (g := { mkF w.m pc Ls st with stack := rest }) (R' := rm) (by rw [C.hml]; exact hml) hmY hcY hf (own_leW (by simpa using hW) hlY hl) hc hsl) (by show (Cond.and _ .tt).before _ _ = true; rw [Cond.before_and, wc₁]; rfl)
  obtain ⟨mid, hmid⟩ := X₁.here.above
  obtain ⟨o, t, run, -, fin, v, L, rfl, ⟨hQ, hL, hge⟩, fe⟩ := Steps.callFree (M hn.1 []) w.p X₁.admits X₁.cas X₁.clock (acts := []) (mid := .java { mkF w.m pc Ls st with stack := rest } :: mid) (below := w.below) (by rw [State.frames_setTop' _ X₁.here.top, hmid]; rfl) happ ⟨rfl, hZ₁, hT, X₁.warmed.interned_eq.trans hI⟩ trivial
  rw [State.frames_setTop' _ X₁.here.top] at fin
  obtain ⟨c₂, i₂, len₂, hc₂, hd₂, hf₂⟩ := fin
  obtain ⟨-, hWt, hBt, e2, q2⟩ := id fe
  have hWt' : (T.setVm vm₁).Warmed39 t.vm := hWt
  have hcc : c₂ = w.c := Option.some.inj (hc₂.symm.trans ((show t.code? w.m = (T.setVm vm₁).code? w.m by rw [State.code?_eq, State.code?_eq, hWt'.alike.method?]).trans X₁.here.code))
  subst hcc
  have hd₃ : (3 : Nat) = len₂ := by have := (C.d hd).symm.trans hd₂; cases this; rfl
  subst hd₃
  have land := own_land X₁.here.top e2 hf₂
  obtain ⟨g₀, hg0⟩ := Option.isSome_iff_exists.mp X₁.here.top
  obtain ⟨r, hr⟩ := State.topJava?_eq_some.mp hg0
  have hsame : (T.setVm vm₁).sameButNew ({ T.setVm vm₁ with heap := t.heap, slotsUsed := t.slotsUsed } : State) L rm.cells rm.slots := by
    refine ⟨?_, q2⟩
    obtain ⟨t', ht', -⟩ := State.frames_cons hr
    show ({ T.setVm vm₁ with heap := t.heap, slotsUsed := t.slotsUsed } : State) = { (T.setVm vm₁).setFrames (T.setVm vm₁).frames with heap := t.heap, slotsUsed := t.slotsUsed }
    rw [State.setFrames_self ht']
  obtain ⟨X₂, hS⟩ := X₁.movedW (T₂ := (({ T.setVm vm₁ with heap := t.heap, slotsUsed := t.slotsUsed } : State).setVm t.vm)) ((X₁.here.setHeapUsed t.heap t.slotsUsed).setVm hWt'.alike) X₁.tail rfl rfl hWt' hBt hsame
  have hk : w.kk ≤ t.heap.size := Nat.le_trans hn.2 hge
  obtain ⟨s₂, o, h1, h2⟩ := G (w.reb t.vm t.heap.size) v t.heap (C.reb CW hS hk) (CW.reb hS hk) hQ _ _ X₂ rfl ⟨Nat.le_trans hn.1 hge, Nat.le_refl _⟩ (N.app hL)
  refine ⟨s₂, o, ((go _ fun acts => by rw [doInvoke_state]; exact Steps.refl _).trans (by rw [doInvoke_state]; rw [doInvoke_state] at run; exact run)).trans ?_, h2⟩
  rw [land]; exact h1
end CallsH
end OwnHand

theorem own_strAtoms : ∀ d ∈ Bundle.stringAtoms, d ∈ tables_1 := by decide +kernel
theorem own_fld {t : Term} {s : State} {args : Array Value} {x : Addr} {C n d : String} {v : Int32} (ht : t.eval args s none [] s = some (.ref x)) (q : (Jvm.Cond.eq (Term.field t C n d) (Term.int v)).value args s none s [] = some true) : Fld s s.heap x C n d (.int v) := by
  refine Fld.start ?_
  have e := fld_at (t := t) (C := C) (n := n) (dd := d) (first := s) (o := none) (idx := []) (s := s) ht
  simp only [Jvm.Cond.value, e] at q
  cases hf : s.fieldOf? x C n d with
  | none => simp [hf] at q
  | some y => rw [hf] at q; cases y <;> simp [Term.eval] at q ⊢; exact q
theorem d1_0 : decode prog_15_method_1_code 0 = .ok (.aload_n 0, 1) := by decide +kernel
theorem d1_1 : decode prog_15_method_1_code 1 = .ok (.invokespecial 1, 3) := by decide +kernel
theorem d1_4 : decode prog_15_method_1_code 4 = .ok (.aload_n 0, 1) := by decide +kernel
theorem d1_5 : decode prog_15_method_1_code 5 = .ok (.aload_n 1, 1) := by decide +kernel
theorem d1_6 : decode prog_15_method_1_code 6 = .ok (.putfield 7, 3) := by decide +kernel
theorem d1_9 : decode prog_15_method_1_code 9 = .ok (.aload_n 0, 1) := by decide +kernel
theorem d1_10 : decode prog_15_method_1_code 10 = .ok (.iload_n 2, 1) := by decide +kernel
theorem d1_11 : decode prog_15_method_1_code 11 = .ok (.putfield 13, 3) := by decide +kernel
theorem d1_14 : decode prog_15_method_1_code 14 = .ok (.return_, 1) := by decide +kernel
theorem d2_0 : decode jdk_30_method_1_code 0 = .ok (.aload_n 0, 1) := by decide +kernel
theorem d2_1 : decode jdk_30_method_1_code 1 = .ok (.invokespecial 1, 3) := by decide +kernel
theorem d2_4 : decode jdk_30_method_1_code 4 = .ok (.return_, 1) := by decide +kernel
theorem d4_0 : decode prog_15_method_4_code 0 = .ok (.iload_n 3, 1) := by decide +kernel
theorem d4_1 : decode prog_15_method_4_code 1 = .ok (.istore 6, 2) := by decide +kernel
theorem d4_3 : decode prog_15_method_4_code 3 = .ok (.aload_n 0, 1) := by decide +kernel
theorem d4_4 : decode prog_15_method_4_code 4 = .ok (.getfield 13, 3) := by decide +kernel
theorem d4_7 : decode prog_15_method_4_code 7 = .ok (.istore 7, 2) := by decide +kernel
theorem d4_9 : decode prog_15_method_4_code 9 = .ok (.aload_n 0, 1) := by decide +kernel
theorem d4_10 : decode prog_15_method_4_code 10 = .ok (.getfield 7, 3) := by decide +kernel
theorem d4_13 : decode prog_15_method_4_code 13 = .ok (.getfield 44, 3) := by decide +kernel
theorem d4_16 : decode prog_15_method_4_code 16 = .ok (.ifCond .le 157, 3) := by decide +kernel
theorem d4_19 : decode prog_15_method_4_code 19 = .ok (.iload 6, 2) := by decide +kernel
theorem d4_21 : decode prog_15_method_4_code 21 = .ok (.aload_n 0, 1) := by decide +kernel
theorem d4_22 : decode prog_15_method_4_code 22 = .ok (.getfield 7, 3) := by decide +kernel
theorem d4_25 : decode prog_15_method_4_code 25 = .ok (.getfield 44, 3) := by decide +kernel
theorem d4_28 : decode prog_15_method_4_code 28 = .ok (.iadd, 1) := by decide +kernel
theorem d4_29 : decode prog_15_method_4_code 29 = .ok (.istore 6, 2) := by decide +kernel
theorem d4_31 : decode prog_15_method_4_code 31 = .ok (.iload 6, 2) := by decide +kernel
theorem d4_33 : decode prog_15_method_4_code 33 = .ok (.aload_n 2, 1) := by decide +kernel
theorem d4_34 : decode prog_15_method_4_code 34 = .ok (.arraylength, 1) := by decide +kernel
theorem d4_35 : decode prog_15_method_4_code 35 = .ok (.if_icmp .le 17, 3) := by decide +kernel
theorem d4_52 : decode prog_15_method_4_code 52 = .ok (.iconst 0, 1) := by decide +kernel
theorem d4_53 : decode prog_15_method_4_code 53 = .ok (.istore 7, 2) := by decide +kernel
theorem d4_55 : decode prog_15_method_4_code 55 = .ok (.iload_n 3, 1) := by decide +kernel
theorem d4_56 : decode prog_15_method_4_code 56 = .ok (.istore 8, 2) := by decide +kernel
theorem d4_58 : decode prog_15_method_4_code 58 = .ok (.iload 8, 2) := by decide +kernel
theorem d4_60 : decode prog_15_method_4_code 60 = .ok (.iload 6, 2) := by decide +kernel
theorem d4_62 : decode prog_15_method_4_code 62 = .ok (.if_icmp .ge 82, 3) := by decide +kernel
theorem d4_65 : decode prog_15_method_4_code 65 = .ok (.aload_n 2, 1) := by decide +kernel
theorem d4_66 : decode prog_15_method_4_code 66 = .ok (.iload 8, 2) := by decide +kernel
theorem d4_68 : decode prog_15_method_4_code 68 = .ok (.baload, 1) := by decide +kernel
theorem d4_69 : decode prog_15_method_4_code 69 = .ok (.bipush 48, 2) := by decide +kernel
theorem d4_71 : decode prog_15_method_4_code 71 = .ok (.if_icmp .lt 12, 3) := by decide +kernel
theorem d4_74 : decode prog_15_method_4_code 74 = .ok (.aload_n 2, 1) := by decide +kernel
theorem d4_75 : decode prog_15_method_4_code 75 = .ok (.iload 8, 2) := by decide +kernel
theorem d4_77 : decode prog_15_method_4_code 77 = .ok (.baload, 1) := by decide +kernel
theorem d4_78 : decode prog_15_method_4_code 78 = .ok (.bipush 57, 2) := by decide +kernel
theorem d4_80 : decode prog_15_method_4_code 80 = .ok (.if_icmp .le 43, 3) := by decide +kernel
theorem d4_123 : decode prog_15_method_4_code 123 = .ok (.iload 7, 2) := by decide +kernel
theorem d4_125 : decode prog_15_method_4_code 125 = .ok (.bipush 10, 2) := by decide +kernel
theorem d4_127 : decode prog_15_method_4_code 127 = .ok (.imul, 1) := by decide +kernel
theorem d4_128 : decode prog_15_method_4_code 128 = .ok (.aload_n 2, 1) := by decide +kernel
theorem d4_129 : decode prog_15_method_4_code 129 = .ok (.iload 8, 2) := by decide +kernel
theorem d4_131 : decode prog_15_method_4_code 131 = .ok (.baload, 1) := by decide +kernel
theorem d4_132 : decode prog_15_method_4_code 132 = .ok (.iadd, 1) := by decide +kernel
theorem d4_133 : decode prog_15_method_4_code 133 = .ok (.bipush 48, 2) := by decide +kernel
theorem d4_135 : decode prog_15_method_4_code 135 = .ok (.isub, 1) := by decide +kernel
theorem d4_136 : decode prog_15_method_4_code 136 = .ok (.istore 7, 2) := by decide +kernel
theorem d4_138 : decode prog_15_method_4_code 138 = .ok (.iinc 8 1, 3) := by decide +kernel
theorem d4_141 : decode prog_15_method_4_code 141 = .ok (.goto (-83), 3) := by decide +kernel
theorem d4_144 : decode prog_15_method_4_code 144 = .ok (.iload 7, 2) := by decide +kernel
theorem d4_146 : decode prog_15_method_4_code 146 = .ok (.aload_n 0, 1) := by decide +kernel
theorem d4_147 : decode prog_15_method_4_code 147 = .ok (.getfield 13, 3) := by decide +kernel
theorem d4_150 : decode prog_15_method_4_code 150 = .ok (.if_icmp .le 23, 3) := by decide +kernel
theorem d4_173 : decode prog_15_method_4_code 173 = .ok (.aload_n 2, 1) := by decide +kernel
theorem d4_174 : decode prog_15_method_4_code 174 = .ok (.arraylength, 1) := by decide +kernel
theorem d4_175 : decode prog_15_method_4_code 175 = .ok (.iload 6, 2) := by decide +kernel
theorem d4_177 : decode prog_15_method_4_code 177 = .ok (.isub, 1) := by decide +kernel
theorem d4_178 : decode prog_15_method_4_code 178 = .ok (.iload 7, 2) := by decide +kernel
theorem d4_180 : decode prog_15_method_4_code 180 = .ok (.if_icmp .ge 24, 3) := by decide +kernel
theorem d4_204 : decode prog_15_method_4_code 204 = .ok (.aload 4, 2) := by decide +kernel
theorem d4_206 : decode prog_15_method_4_code 206 = .ok (.iload 5, 2) := by decide +kernel
theorem d4_208 : decode prog_15_method_4_code 208 = .ok (.new 29, 3) := by decide +kernel
theorem d4_211 : decode prog_15_method_4_code 211 = .ok (.dup, 1) := by decide +kernel
theorem d4_212 : decode prog_15_method_4_code 212 = .ok (.aload_n 2, 1) := by decide +kernel
theorem d4_213 : decode prog_15_method_4_code 213 = .ok (.iload 6, 2) := by decide +kernel
theorem d4_215 : decode prog_15_method_4_code 215 = .ok (.iload 7, 2) := by decide +kernel
theorem d4_217 : decode prog_15_method_4_code 217 = .ok (.getstatic 54, 3) := by decide +kernel
theorem d4_220 : decode prog_15_method_4_code 220 = .ok (.invokespecial 60, 3) := by decide +kernel
theorem d4_223 : decode prog_15_method_4_code 223 = .ok (.aastore, 1) := by decide +kernel
theorem d4_224 : decode prog_15_method_4_code 224 = .ok (.iload 6, 2) := by decide +kernel
theorem d4_226 : decode prog_15_method_4_code 226 = .ok (.iload 7, 2) := by decide +kernel
theorem d4_228 : decode prog_15_method_4_code 228 = .ok (.iadd, 1) := by decide +kernel
theorem d4_229 : decode prog_15_method_4_code 229 = .ok (.ireturn, 1) := by decide +kernel
theorem d5_0 : decode jdk_42_method_10_code 0 = .ok (.aload_n 0, 1) := by decide +kernel
theorem d5_1 : decode jdk_42_method_10_code 1 = .ok (.aload 4, 2) := by decide +kernel
theorem d5_3 : decode jdk_42_method_10_code 3 = .ok (.invokestatic 78, 3) := by decide +kernel
theorem d5_6 : decode jdk_42_method_10_code 6 = .ok (.checkcast 84, 3) := by decide +kernel
theorem d5_9 : decode jdk_42_method_10_code 9 = .ok (.aload_n 1, 1) := by decide +kernel
theorem d5_10 : decode jdk_42_method_10_code 10 = .ok (.iload_n 2, 1) := by decide +kernel
theorem d5_11 : decode jdk_42_method_10_code 11 = .ok (.iload_n 3, 1) := by decide +kernel
theorem d5_12 : decode jdk_42_method_10_code 12 = .ok (.aload_n 1, 1) := by decide +kernel
theorem d5_13 : decode jdk_42_method_10_code 13 = .ok (.arraylength, 1) := by decide +kernel
theorem d5_14 : decode jdk_42_method_10_code 14 = .ok (.invokestatic 34, 3) := by decide +kernel
theorem d5_17 : decode jdk_42_method_10_code 17 = .ok (.iload_n 3, 1) := by decide +kernel
theorem d5_18 : decode jdk_42_method_10_code 18 = .ok (.invokespecial 75, 3) := by decide +kernel
theorem d5_21 : decode jdk_42_method_10_code 21 = .ok (.return_, 1) := by decide +kernel
theorem d6_0 : decode jdk_31_method_10_code 0 = .ok (.aload_n 0, 1) := by decide +kernel
theorem d6_1 : decode jdk_31_method_10_code 1 = .ok (.ifnonnull 11, 3) := by decide +kernel
theorem d6_12 : decode jdk_31_method_10_code 12 = .ok (.aload_n 0, 1) := by decide +kernel
theorem d6_13 : decode jdk_31_method_10_code 13 = .ok (.areturn, 1) := by decide +kernel
theorem d7_0 : decode jdk_42_method_157_code 0 = .ok (.iload_n 0, 1) := by decide +kernel
theorem d7_1 : decode jdk_42_method_157_code 1 = .ok (.iload_n 1, 1) := by decide +kernel
theorem d7_2 : decode jdk_42_method_157_code 2 = .ok (.iload_n 2, 1) := by decide +kernel
theorem d7_3 : decode jdk_42_method_157_code 3 = .ok (.getstatic 1053, 3) := by decide +kernel
theorem d7_6 : decode jdk_42_method_157_code 6 = .ok (.invokestatic 1065, 3) := by decide +kernel
theorem d7_9 : decode jdk_42_method_157_code 9 = .ok (.ireturn, 1) := by decide +kernel
theorem d8_0 : decode jdk_41_method_13_code 0 = .ok (.iload_n 2, 1) := by decide +kernel
theorem d8_1 : decode jdk_41_method_13_code 1 = .ok (.iload_n 0, 1) := by decide +kernel
theorem d8_2 : decode jdk_41_method_13_code 2 = .ok (.ior, 1) := by decide +kernel
theorem d8_3 : decode jdk_41_method_13_code 3 = .ok (.iload_n 1, 1) := by decide +kernel
theorem d8_4 : decode jdk_41_method_13_code 4 = .ok (.ior, 1) := by decide +kernel
theorem d8_5 : decode jdk_41_method_13_code 5 = .ok (.ifCond .lt 10, 3) := by decide +kernel
theorem d8_8 : decode jdk_41_method_13_code 8 = .ok (.iload_n 1, 1) := by decide +kernel
theorem d8_9 : decode jdk_41_method_13_code 9 = .ok (.iload_n 2, 1) := by decide +kernel
theorem d8_10 : decode jdk_41_method_13_code 10 = .ok (.iload_n 0, 1) := by decide +kernel
theorem d8_11 : decode jdk_41_method_13_code 11 = .ok (.isub, 1) := by decide +kernel
theorem d8_12 : decode jdk_41_method_13_code 12 = .ok (.if_icmp .le 11, 3) := by decide +kernel
theorem d8_23 : decode jdk_41_method_13_code 23 = .ok (.iload_n 0, 1) := by decide +kernel
theorem d8_24 : decode jdk_41_method_13_code 24 = .ok (.ireturn, 1) := by decide +kernel
theorem d9_0 : decode jdk_123_method_2_code 0 = .ok (.aload_n 0, 1) := by decide +kernel
theorem d9_1 : decode jdk_123_method_2_code 1 = .ok (.iload_n 1, 1) := by decide +kernel
theorem d9_2 : decode jdk_123_method_2_code 2 = .ok (.iload_n 2, 1) := by decide +kernel
theorem d9_3 : decode jdk_123_method_2_code 3 = .ok (.invokestatic 7, 3) := by decide +kernel
theorem d9_6 : decode jdk_123_method_2_code 6 = .ok (.iload_n 2, 1) := by decide +kernel
theorem d9_7 : decode jdk_123_method_2_code 7 = .ok (.if_icmp .eq 7, 3) := by decide +kernel
theorem d9_14 : decode jdk_123_method_2_code 14 = .ok (.iconst 0, 1) := by decide +kernel
theorem d9_15 : decode jdk_123_method_2_code 15 = .ok (.ireturn, 1) := by decide +kernel
theorem d10_0 : decode jdk_123_method_3_code 0 = .ok (.iload_n 1, 1) := by decide +kernel
theorem d10_1 : decode jdk_123_method_3_code 1 = .ok (.iload_n 2, 1) := by decide +kernel
theorem d10_2 : decode jdk_123_method_3_code 2 = .ok (.iadd, 1) := by decide +kernel
theorem d10_3 : decode jdk_123_method_3_code 3 = .ok (.istore_n 3, 1) := by decide +kernel
theorem d10_4 : decode jdk_123_method_3_code 4 = .ok (.iload_n 1, 1) := by decide +kernel
theorem d10_5 : decode jdk_123_method_3_code 5 = .ok (.istore 4, 2) := by decide +kernel
theorem d10_7 : decode jdk_123_method_3_code 7 = .ok (.iload 4, 2) := by decide +kernel
theorem d10_9 : decode jdk_123_method_3_code 9 = .ok (.iload_n 3, 1) := by decide +kernel
theorem d10_10 : decode jdk_123_method_3_code 10 = .ok (.if_icmp .ge 21, 3) := by decide +kernel
theorem d10_13 : decode jdk_123_method_3_code 13 = .ok (.aload_n 0, 1) := by decide +kernel
theorem d10_14 : decode jdk_123_method_3_code 14 = .ok (.iload 4, 2) := by decide +kernel
theorem d10_16 : decode jdk_123_method_3_code 16 = .ok (.baload, 1) := by decide +kernel
theorem d10_17 : decode jdk_123_method_3_code 17 = .ok (.ifCond .ge 8, 3) := by decide +kernel
theorem d10_25 : decode jdk_123_method_3_code 25 = .ok (.iinc 4 1, 3) := by decide +kernel
theorem d10_28 : decode jdk_123_method_3_code 28 = .ok (.goto (-21), 3) := by decide +kernel
theorem d10_31 : decode jdk_123_method_3_code 31 = .ok (.iload_n 2, 1) := by decide +kernel
theorem d10_32 : decode jdk_123_method_3_code 32 = .ok (.ireturn, 1) := by decide +kernel
theorem d11_0 : decode jdk_65_method_132_code 0 = .ok (.iload_n 1, 1) := by decide +kernel
theorem d11_1 : decode jdk_65_method_132_code 1 = .ok (.ifCond .ne 9, 3) := by decide +kernel
theorem d11_4 : decode jdk_65_method_132_code 4 = .ok (.iload_n 2, 1) := by decide +kernel
theorem d11_5 : decode jdk_65_method_132_code 5 = .ok (.aload_n 0, 1) := by decide +kernel
theorem d11_6 : decode jdk_65_method_132_code 6 = .ok (.arraylength, 1) := by decide +kernel
theorem d11_7 : decode jdk_65_method_132_code 7 = .ok (.if_icmp .eq 10, 3) := by decide +kernel
theorem d11_10 : decode jdk_65_method_132_code 10 = .ok (.aload_n 0, 1) := by decide +kernel
theorem d11_11 : decode jdk_65_method_132_code 11 = .ok (.iload_n 1, 1) := by decide +kernel
theorem d11_12 : decode jdk_65_method_132_code 12 = .ok (.iload_n 2, 1) := by decide +kernel
theorem d11_13 : decode jdk_65_method_132_code 13 = .ok (.invokestatic 339, 3) := by decide +kernel
theorem d11_16 : decode jdk_65_method_132_code 16 = .ok (.areturn, 1) := by decide +kernel
theorem d11_17 : decode jdk_65_method_132_code 17 = .ok (.aload_n 0, 1) := by decide +kernel
theorem d11_18 : decode jdk_65_method_132_code 18 = .ok (.invokevirtual 310, 3) := by decide +kernel
theorem d11_21 : decode jdk_65_method_132_code 21 = .ok (.checkcast 311, 3) := by decide +kernel
theorem d11_24 : decode jdk_65_method_132_code 24 = .ok (.areturn, 1) := by decide +kernel
theorem d12_0 : decode jdk_65_method_133_code 0 = .ok (.iload_n 1, 1) := by decide +kernel
theorem d12_1 : decode jdk_65_method_133_code 1 = .ok (.iload_n 2, 1) := by decide +kernel
theorem d12_2 : decode jdk_65_method_133_code 2 = .ok (.invokestatic 343, 3) := by decide +kernel
theorem d12_5 : decode jdk_65_method_133_code 5 = .ok (.iload_n 2, 1) := by decide +kernel
theorem d12_6 : decode jdk_65_method_133_code 6 = .ok (.iload_n 1, 1) := by decide +kernel
theorem d12_7 : decode jdk_65_method_133_code 7 = .ok (.isub, 1) := by decide +kernel
theorem d12_8 : decode jdk_65_method_133_code 8 = .ok (.istore_n 3, 1) := by decide +kernel
theorem d12_9 : decode jdk_65_method_133_code 9 = .ok (.iload_n 3, 1) := by decide +kernel
theorem d12_10 : decode jdk_65_method_133_code 10 = .ok (.newarray .byte, 2) := by decide +kernel
theorem d12_12 : decode jdk_65_method_133_code 12 = .ok (.astore 4, 2) := by decide +kernel
theorem d12_14 : decode jdk_65_method_133_code 14 = .ok (.aload_n 0, 1) := by decide +kernel
theorem d12_15 : decode jdk_65_method_133_code 15 = .ok (.iload_n 1, 1) := by decide +kernel
theorem d12_16 : decode jdk_65_method_133_code 16 = .ok (.aload 4, 2) := by decide +kernel
theorem d12_18 : decode jdk_65_method_133_code 18 = .ok (.iconst 0, 1) := by decide +kernel
theorem d12_19 : decode jdk_65_method_133_code 19 = .ok (.aload_n 0, 1) := by decide +kernel
theorem d12_20 : decode jdk_65_method_133_code 20 = .ok (.arraylength, 1) := by decide +kernel
theorem d12_21 : decode jdk_65_method_133_code 21 = .ok (.iload_n 1, 1) := by decide +kernel
theorem d12_22 : decode jdk_65_method_133_code 22 = .ok (.isub, 1) := by decide +kernel
theorem d12_23 : decode jdk_65_method_133_code 23 = .ok (.iload_n 3, 1) := by decide +kernel
theorem d12_24 : decode jdk_65_method_133_code 24 = .ok (.invokestatic 304, 3) := by decide +kernel
theorem d12_27 : decode jdk_65_method_133_code 27 = .ok (.invokestatic 150, 3) := by decide +kernel
theorem d12_30 : decode jdk_65_method_133_code 30 = .ok (.aload 4, 2) := by decide +kernel
theorem d12_32 : decode jdk_65_method_133_code 32 = .ok (.areturn, 1) := by decide +kernel
theorem d13_0 : decode jdk_65_method_131_code 0 = .ok (.iload_n 1, 1) := by decide +kernel
theorem d13_1 : decode jdk_65_method_131_code 1 = .ok (.iload_n 0, 1) := by decide +kernel
theorem d13_2 : decode jdk_65_method_131_code 2 = .ok (.if_icmp .ge 35, 3) := by decide +kernel
theorem d13_37 : decode jdk_65_method_131_code 37 = .ok (.return_, 1) := by decide +kernel
theorem d14_0 : decode jdk_29_method_69_code 0 = .ok (.iload_n 0, 1) := by decide +kernel
theorem d14_1 : decode jdk_29_method_69_code 1 = .ok (.iload_n 1, 1) := by decide +kernel
theorem d14_2 : decode jdk_29_method_69_code 2 = .ok (.if_icmp .gt 7, 3) := by decide +kernel
theorem d14_5 : decode jdk_29_method_69_code 5 = .ok (.iload_n 0, 1) := by decide +kernel
theorem d14_6 : decode jdk_29_method_69_code 6 = .ok (.goto 4, 3) := by decide +kernel
theorem d14_9 : decode jdk_29_method_69_code 9 = .ok (.iload_n 1, 1) := by decide +kernel
theorem d14_10 : decode jdk_29_method_69_code 10 = .ok (.ireturn, 1) := by decide +kernel
theorem d15_0 : decode jdk_42_method_54_code 0 = .ok (.aload_n 0, 1) := by decide +kernel
theorem d15_1 : decode jdk_42_method_54_code 1 = .ok (.getfield 9, 3) := by decide +kernel
theorem d15_4 : decode jdk_42_method_54_code 4 = .ok (.arraylength, 1) := by decide +kernel
theorem d15_5 : decode jdk_42_method_54_code 5 = .ok (.aload_n 0, 1) := by decide +kernel
theorem d15_6 : decode jdk_42_method_54_code 6 = .ok (.invokevirtual 335, 3) := by decide +kernel
theorem d15_9 : decode jdk_42_method_54_code 9 = .ok (.ishr, 1) := by decide +kernel
theorem d15_10 : decode jdk_42_method_54_code 10 = .ok (.ireturn, 1) := by decide +kernel
theorem d16_0 : decode jdk_42_method_152_code 0 = .ok (.getstatic 38, 3) := by decide +kernel
theorem d16_3 : decode jdk_42_method_152_code 3 = .ok (.ifCond .eq 10, 3) := by decide +kernel
theorem d16_6 : decode jdk_42_method_152_code 6 = .ok (.aload_n 0, 1) := by decide +kernel
theorem d16_7 : decode jdk_42_method_152_code 7 = .ok (.getfield 15, 3) := by decide +kernel
theorem d16_10 : decode jdk_42_method_152_code 10 = .ok (.goto 4, 3) := by decide +kernel
theorem d16_14 : decode jdk_42_method_152_code 14 = .ok (.ireturn, 1) := by decide +kernel
theorem d17_0 : decode jdk_42_method_56_code 0 = .ok (.aload_n 0, 1) := by decide +kernel
theorem d17_1 : decode jdk_42_method_56_code 1 = .ok (.invokevirtual 492, 3) := by decide +kernel
theorem d17_4 : decode jdk_42_method_56_code 4 = .ok (.ifCond .eq 12, 3) := by decide +kernel
theorem d17_7 : decode jdk_42_method_56_code 7 = .ok (.aload_n 0, 1) := by decide +kernel
theorem d17_8 : decode jdk_42_method_56_code 8 = .ok (.getfield 9, 3) := by decide +kernel
theorem d17_11 : decode jdk_42_method_56_code 11 = .ok (.iload_n 1, 1) := by decide +kernel
theorem d17_12 : decode jdk_42_method_56_code 12 = .ok (.invokestatic 495, 3) := by decide +kernel
theorem d17_15 : decode jdk_42_method_56_code 15 = .ok (.ireturn, 1) := by decide +kernel
theorem d18_0 : decode jdk_42_method_154_code 0 = .ok (.getstatic 38, 3) := by decide +kernel
theorem d18_3 : decode jdk_42_method_154_code 3 = .ok (.ifCond .eq 14, 3) := by decide +kernel
theorem d18_6 : decode jdk_42_method_154_code 6 = .ok (.aload_n 0, 1) := by decide +kernel
theorem d18_7 : decode jdk_42_method_154_code 7 = .ok (.getfield 15, 3) := by decide +kernel
theorem d18_10 : decode jdk_42_method_154_code 10 = .ok (.ifCond .ne 7, 3) := by decide +kernel
theorem d18_13 : decode jdk_42_method_154_code 13 = .ok (.iconst 1, 1) := by decide +kernel
theorem d18_14 : decode jdk_42_method_154_code 14 = .ok (.goto 4, 3) := by decide +kernel
theorem d18_18 : decode jdk_42_method_154_code 18 = .ok (.ireturn, 1) := by decide +kernel
theorem d19_0 : decode jdk_43_method_2_code 0 = .ok (.iload_n 1, 1) := by decide +kernel
theorem d19_1 : decode jdk_43_method_2_code 1 = .ok (.aload_n 0, 1) := by decide +kernel
theorem d19_2 : decode jdk_43_method_2_code 2 = .ok (.arraylength, 1) := by decide +kernel
theorem d19_3 : decode jdk_43_method_2_code 3 = .ok (.invokestatic 9, 3) := by decide +kernel
theorem d19_6 : decode jdk_43_method_2_code 6 = .ok (.aload_n 0, 1) := by decide +kernel
theorem d19_7 : decode jdk_43_method_2_code 7 = .ok (.iload_n 1, 1) := by decide +kernel
theorem d19_8 : decode jdk_43_method_2_code 8 = .ok (.baload, 1) := by decide +kernel
theorem d19_9 : decode jdk_43_method_2_code 9 = .ok (.sipush 255, 3) := by decide +kernel
theorem d19_12 : decode jdk_43_method_2_code 12 = .ok (.iand, 1) := by decide +kernel
theorem d19_13 : decode jdk_43_method_2_code 13 = .ok (.i2c, 1) := by decide +kernel
theorem d19_14 : decode jdk_43_method_2_code 14 = .ok (.ireturn, 1) := by decide +kernel
theorem d20_0 : decode jdk_42_method_155_code 0 = .ok (.iload_n 0, 1) := by decide +kernel
theorem d20_1 : decode jdk_42_method_155_code 1 = .ok (.iload_n 1, 1) := by decide +kernel
theorem d20_2 : decode jdk_42_method_155_code 2 = .ok (.getstatic 1053, 3) := by decide +kernel
theorem d20_5 : decode jdk_42_method_155_code 5 = .ok (.invokestatic 1059, 3) := by decide +kernel
theorem d20_8 : decode jdk_42_method_155_code 8 = .ok (.pop, 1) := by decide +kernel
theorem d20_9 : decode jdk_42_method_155_code 9 = .ok (.return_, 1) := by decide +kernel
theorem d21_0 : decode jdk_41_method_11_code 0 = .ok (.iload_n 0, 1) := by decide +kernel
theorem d21_1 : decode jdk_41_method_11_code 1 = .ok (.ifCond .lt 8, 3) := by decide +kernel
theorem d21_4 : decode jdk_41_method_11_code 4 = .ok (.iload_n 0, 1) := by decide +kernel
theorem d21_5 : decode jdk_41_method_11_code 5 = .ok (.iload_n 1, 1) := by decide +kernel
theorem d21_6 : decode jdk_41_method_11_code 6 = .ok (.if_icmp .lt 10, 3) := by decide +kernel
theorem d21_16 : decode jdk_41_method_11_code 16 = .ok (.iload_n 0, 1) := by decide +kernel
theorem d21_17 : decode jdk_41_method_11_code 17 = .ok (.ireturn, 1) := by decide +kernel
theorem d22_0 : decode jdk_42_method_11_code 0 = .ok (.aload_n 0, 1) := by decide +kernel
theorem d22_1 : decode jdk_42_method_11_code 1 = .ok (.invokespecial 1, 3) := by decide +kernel
theorem d22_4 : decode jdk_42_method_11_code 4 = .ok (.iload 4, 2) := by decide +kernel
theorem d22_6 : decode jdk_42_method_11_code 6 = .ok (.ifCond .ne 24, 3) := by decide +kernel
theorem d22_9 : decode jdk_42_method_11_code 9 = .ok (.aload_n 0, 1) := by decide +kernel
theorem d22_10 : decode jdk_42_method_11_code 10 = .ok (.ldc 7, 2) := by decide +kernel
theorem d22_12 : decode jdk_42_method_11_code 12 = .ok (.getfield 9, 3) := by decide +kernel
theorem d22_15 : decode jdk_42_method_11_code 15 = .ok (.putfield 9, 3) := by decide +kernel
theorem d22_18 : decode jdk_42_method_11_code 18 = .ok (.aload_n 0, 1) := by decide +kernel
theorem d22_19 : decode jdk_42_method_11_code 19 = .ok (.ldc 7, 2) := by decide +kernel
theorem d22_21 : decode jdk_42_method_11_code 21 = .ok (.getfield 15, 3) := by decide +kernel
theorem d22_24 : decode jdk_42_method_11_code 24 = .ok (.putfield 15, 3) := by decide +kernel
theorem d22_27 : decode jdk_42_method_11_code 27 = .ok (.goto 852, 3) := by decide +kernel
theorem d22_30 : decode jdk_42_method_11_code 30 = .ok (.aload_n 1, 1) := by decide +kernel
theorem d22_31 : decode jdk_42_method_11_code 31 = .ok (.getstatic 86, 3) := by decide +kernel
theorem d22_34 : decode jdk_42_method_11_code 34 = .ok (.if_acmp .ne 312, 3) := by decide +kernel
theorem d22_346 : decode jdk_42_method_11_code 346 = .ok (.aload_n 1, 1) := by decide +kernel
theorem d22_347 : decode jdk_42_method_11_code 347 = .ok (.getstatic 116, 3) := by decide +kernel
theorem d22_350 : decode jdk_42_method_11_code 350 = .ok (.if_acmp .ne 49, 3) := by decide +kernel
theorem d22_399 : decode jdk_42_method_11_code 399 = .ok (.aload_n 1, 1) := by decide +kernel
theorem d22_400 : decode jdk_42_method_11_code 400 = .ok (.getstatic 123, 3) := by decide +kernel
theorem d22_403 : decode jdk_42_method_11_code 403 = .ok (.if_acmp .ne 105, 3) := by decide +kernel
theorem d22_406 : decode jdk_42_method_11_code 406 = .ok (.getstatic 38, 3) := by decide +kernel
theorem d22_409 : decode jdk_42_method_11_code 409 = .ok (.ifCond .eq 34, 3) := by decide +kernel
theorem d22_412 : decode jdk_42_method_11_code 412 = .ok (.aload_n 2, 1) := by decide +kernel
theorem d22_413 : decode jdk_42_method_11_code 413 = .ok (.iload_n 3, 1) := by decide +kernel
theorem d22_414 : decode jdk_42_method_11_code 414 = .ok (.iload 4, 2) := by decide +kernel
theorem d22_416 : decode jdk_42_method_11_code 416 = .ok (.invokestatic 128, 3) := by decide +kernel
theorem d22_419 : decode jdk_42_method_11_code 419 = .ok (.ifCond .ne 24, 3) := by decide +kernel
theorem d22_422 : decode jdk_42_method_11_code 422 = .ok (.aload_n 0, 1) := by decide +kernel
theorem d22_423 : decode jdk_42_method_11_code 423 = .ok (.aload_n 2, 1) := by decide +kernel
theorem d22_424 : decode jdk_42_method_11_code 424 = .ok (.iload_n 3, 1) := by decide +kernel
theorem d22_425 : decode jdk_42_method_11_code 425 = .ok (.iload_n 3, 1) := by decide +kernel
theorem d22_426 : decode jdk_42_method_11_code 426 = .ok (.iload 4, 2) := by decide +kernel
theorem d22_428 : decode jdk_42_method_11_code 428 = .ok (.iadd, 1) := by decide +kernel
theorem d22_429 : decode jdk_42_method_11_code 429 = .ok (.invokestatic 54, 3) := by decide +kernel
theorem d22_432 : decode jdk_42_method_11_code 432 = .ok (.putfield 9, 3) := by decide +kernel
theorem d22_435 : decode jdk_42_method_11_code 435 = .ok (.aload_n 0, 1) := by decide +kernel
theorem d22_436 : decode jdk_42_method_11_code 436 = .ok (.iconst 0, 1) := by decide +kernel
theorem d22_437 : decode jdk_42_method_11_code 437 = .ok (.putfield 15, 3) := by decide +kernel
theorem d22_440 : decode jdk_42_method_11_code 440 = .ok (.goto 439, 3) := by decide +kernel
theorem d22_879 : decode jdk_42_method_11_code 879 = .ok (.return_, 1) := by decide +kernel
theorem pd_0 : parseMethodDescriptor "([BII)I" = some ⟨[(.array .byte), .int, .int], some .int⟩ := by decide +kernel
theorem pd_1 : parseMethodDescriptor "(II)V" = some ⟨[.int, .int], none⟩ := by decide +kernel
theorem pd_2 : parseMethodDescriptor "(II)I" = some ⟨[.int, .int], some .int⟩ := by decide +kernel
theorem pd_3 : parseMethodDescriptor "([BII)[B" = some ⟨[(.array .byte), .int, .int], some (.array .byte)⟩ := by decide +kernel
theorem pd_4 : parseMethodDescriptor "(IIILjava/util/function/BiFunction;)I" = some ⟨[.int, .int, .int, (.object "java/util/function/BiFunction")], some .int⟩ := by decide +kernel
theorem pd_5 : parseMethodDescriptor "([BII)Z" = some ⟨[(.array .byte), .int, .int], some .boolean⟩ := by decide +kernel
theorem pd_6 : parseMethodDescriptor "(Ljava/lang/Object;)Ljava/lang/Object;" = some ⟨[(.object "java/lang/Object")], some (.object "java/lang/Object")⟩ := by decide +kernel
theorem pd_7 : parseMethodDescriptor "(III)I" = some ⟨[.int, .int, .int], some .int⟩ := by decide +kernel
theorem pd_8 : parseMethodDescriptor "(Ljava/nio/charset/Charset;[BII)V" = some ⟨[(.object "java/nio/charset/Charset"), (.array .byte), .int, .int], none⟩ := by decide +kernel
theorem pd_9 : parseMethodDescriptor "()B" = some ⟨[], some .byte⟩ := by decide +kernel
theorem pd_10 : parseMethodDescriptor "(IILjava/util/function/BiFunction;)I" = some ⟨[.int, .int, (.object "java/util/function/BiFunction")], some .int⟩ := by decide +kernel
theorem pd_11 : parseMethodDescriptor "()Z" = some ⟨[], some .boolean⟩ := by decide +kernel
theorem pd_12 : parseMethodDescriptor "([BI)C" = some ⟨[(.array .byte), .int], some .char⟩ := by decide +kernel
theorem pd_13 : parseMethodDescriptor "()V" = some ⟨[], none⟩ := by decide +kernel
theorem pd_14 : parseMethodDescriptor "([BIILjava/nio/charset/Charset;)V" = some ⟨[(.array .byte), .int, .int, (.object "java/nio/charset/Charset")], none⟩ := by decide +kernel
theorem pd_15 : parseMethodDescriptor "()I" = some ⟨[], some .int⟩ := by decide +kernel
theorem pd_16 : parseMethodDescriptor "(I)C" = some ⟨[.int], some .char⟩ := by decide +kernel
theorem pd_17 : parseMethodDescriptor "(Lcom/example/longhaul/longhaul/Iso8583AsciiCodec$LengthKind;I)V" = some ⟨[(.object "com/example/longhaul/longhaul/Iso8583AsciiCodec$LengthKind"), .int], none⟩ := by decide +kernel
theorem pd_18 : parseMethodDescriptor "(I[BI[Ljava/lang/String;I)I" = some ⟨[.int, (.array .byte), .int, (.array (.object "java/lang/String")), .int], some .int⟩ := by decide +kernel
def own_ok (F : Nat → Int32) : Prop := ∀ j, j < 128 → 0 ≤ (F j).toInt ∧ (F j).toInt < 128
def own_sub (F : Nat → Int32) (P : Nat) : Nat → Value := fun j => .int (F (P + j))
def own_Str (Z : State) (h : Heap) (x : Addr) (N : Nat) (f : Nat → Value) : Prop := Exa Z h x "java/lang/String" ∧ ∃ t : Addr, Fld Z h x "java/lang/String" "coder" "B" (.int 0) ∧ Fld Z h x "java/lang/String" "value" "[B" (.ref t) ∧ Arw Z h t .byte (Int32.ofNat N) f
theorem own_nn {x : Int32} {m : Int} (h : 0 ≤ x.toInt ∧ x.toInt < m) : ¬ x < 0 := by
  rw [Int32.lt_iff_toInt_lt, show (0 : Int32).toInt = 0 from rfl]; omega
theorem own_minN {P N : Nat} (h : P + N ≤ 128) (q : ¬ Int32.ofNat N < Int32.ofNat (128 - P)) : 128 - P = N := by
  rw [Int32.lt_iff_toInt_lt, n32_toInt (by omega), n32_toInt (by omega)] at q; omega
theorem own_sub1 {P N : Nat} (h : P + N ≤ 128) : Int32.ofNat (P + N) - Int32.ofNat P = Int32.ofNat N := by
  have a := c_isub (Int32.ofNat (P + N)) (Int32.ofNat P)
  have r := rng32 (Int32.ofNat (P + N) - Int32.ofNat P)
  rw [n32_toInt (by omega), n32_toInt (by omega)] at a
  rw [← Int32.toInt_inj, n32_toInt (by omega)]; omega
theorem own_sub2 {P : Nat} (h : P ≤ 128) : (128 : Int32) - Int32.ofNat P = Int32.ofNat (128 - P) := by
  have a := c_isub (128 : Int32) (Int32.ofNat P)
  have r := rng32 ((128 : Int32) - Int32.ofNat P)
  rw [n32_toInt (by omega), show (128 : Int32).toInt = 128 from rfl] at a
  rw [← Int32.toInt_inj, n32_toInt (by omega)]; omega
theorem own_cl {Z : State} {h : Heap} {b : Addr} {F : Nat → Int32} {P N : Nat} (A : Arf Z h b "[B" .byte (128 : Int32) (fun j => .int (F j))) (q1 : Int32.ofNat P = 0) (q7 : Int32.ofNat (P + N) = 128) (hPN : P + N ≤ 128) : Arf Z h b "[B" .byte (Int32.ofNat N) (own_sub F P) := by
  have a := congrArg Int32.toInt q1
  have b := congrArg Int32.toInt q7
  rw [n32_toInt (by omega), show (0 : Int32).toInt = 0 from rfl] at a
  rw [n32_toInt (by omega), show (128 : Int32).toInt = 128 from rfl] at b
  obtain rfl : P = 0 := by omega
  obtain rfl : N = 128 := by omega
  exact A.congr fun j _ => by show Value.int (F j) = Value.int (F (0 + j)); rw [Nat.zero_add]
theorem own_or3 {P N : Nat} (h : P + N ≤ 128) : ¬ (((128 : Int32) ||| Int32.ofNat P) ||| Int32.ofNat N) < 0 := by
  have a := (c_orS (128 : Int32) (Int32.ofNat P)).1 (by decide) (by rw [n32_toInt (by omega)]; omega)
  have b := (c_orS ((128 : Int32) ||| Int32.ofNat P) (Int32.ofNat N)).1 a (by rw [n32_toInt (by omega)]; omega)
  rw [Int32.lt_iff_toInt_lt, show (0 : Int32).toInt = 0 from rfl]; omega
theorem own_ht0 : (∀ c ∈ "".toList, c.toNat < 256) ∧ "".toList.map (fun c => Value.int (Jvm.Lit.byteI c.toNat.toUInt16)) = ([] : List Value) := ⟨by simp, by simp⟩
theorem own_n0 {n : Nat} (h1 : 1 ≤ n) (h6 : n ≤ 128) : ¬ Int32.ofNat n = 0 := fun e => by
  have q := congrArg Int32.toInt e
  rw [n32_toInt (by omega), show (0 : Int32).toInt = 0 from rfl] at q; omega
theorem own_cpy {F : Nat → Int32} {P N : Nat} (hPN : P + N ≤ 128) (j : Nat) (hj : j < (Int32.ofNat N).toNatClampNeg) : (if 0 ≤ j ∧ j < 0 + (Int32.ofNat N).toNatClampNeg then Value.int (F ((Int32.ofNat P).toNatClampNeg + (j - 0))) else Value.int 0) = own_sub F P j := by
  rw [if_pos ⟨Nat.zero_le _, by rw [Nat.zero_add]; exact hj⟩, n32_nat (by omega)]; rfl
theorem own_neA {Z : State} {h : Heap} {a b : Addr} {ad C : String} {z z' : Int32} {f g : Nat → Value} (A : Arw Z h b .byte z f) (B : Arf Z h a ad (.object C) z' g) : b ≠ a := fun e => by
  subst e
  obtain ⟨c, ⟨a1, ⟨-, k, a2, comp, a3⟩, -⟩, -⟩ := A
  obtain ⟨-, c', ⟨b1, ⟨-, k', b2, comp', b3⟩, -⟩, -⟩ := B
  cases a1.symm.trans b1
  cases a2.symm.trans b2
  rw [a3] at b3; cases b3
theorem own_nb (x : Int32) : nar .byte x.toInt8.toInt32 = x.toInt8.toInt32 := by
  have a := c_i2b x
  have b := c_i2b x.toInt8.toInt32
  show x.toInt8.toInt32.toInt8.toInt32 = _
  rw [← Int32.toInt_inj]; omega
theorem own_rtL {x : Int32} (h : 0 ≤ x.toInt ∧ x.toInt < 128) : nar .char (x &&& 255).toUInt32.toUInt16.toUInt32.toInt32 = x := by
  have m := c_mask x 255 8 (by decide) (by decide)
  have e : ((2 ^ 8 : Nat) : Int) = 256 := rfl
  rw [e] at m
  have b := c_i2c (x &&& 255)
  have d := c_i2c (x &&& 255).toUInt32.toUInt16.toUInt32.toInt32
  show (x &&& 255).toUInt32.toUInt16.toUInt32.toInt32.toUInt32.toUInt16.toUInt32.toInt32 = _
  rw [← Int32.toInt_inj]; omega
theorem own_nc {x : Int32} (h : 0 ≤ x.toInt ∧ x.toInt < 128) : x.toUInt32.toUInt16.toUInt32.toInt32 = x := by
  have a := c_i2c x
  rw [← Int32.toInt_inj]; omega
theorem own_sh0 {x : Int32} : x >>> ((0 : Int32) &&& 31) = x := by
  rw [show ((0 : Int32) &&& 31) = 0 from rfl, ← Int32.toBitVec_inj, Int32.toBitVec_shiftRight]; simp
theorem own_ix {o k : Nat} {K : Int32} (hK : K = Int32.ofNat k) : Int32.ofNat o + K = Int32.ofNat (o + k) := by subst hK; exact (Int32.ofNat_add o k).symm
theorem own_le128 {n : Nat} (h : n ≤ 128) : ¬ (128 : Int32) < Int32.ofNat n := by
  rw [Int32.lt_iff_toInt_lt, n32_toInt (by omega), show (128 : Int32).toInt = 128 from rfl]; omega
theorem own_ge48 {x : Int32} (h : 48 ≤ x.toInt ∧ x.toInt ≤ 57) : ¬ x < 48 := by
  rw [Int32.lt_iff_toInt_lt, show (48 : Int32).toInt = 48 from rfl]; omega
theorem own_le57 {x : Int32} (h : 48 ≤ x.toInt ∧ x.toInt ≤ 57) : ¬ (57 : Int32) < x := by
  rw [Int32.lt_iff_toInt_lt, show (57 : Int32).toInt = 57 from rfl]; omega
def own_w (F : Nat → Int32) (i : Nat) (V : Int32) : Nat → Int32 := fun j => if j = i then V else F j
theorem own_wr {F : Nat → Int32} {i : Nat} (hi : i < 128) (V : Int32) (j : Nat) : upd (fun j => Value.int (F j)) (Int32.ofNat i).toNatClampNeg (.int V) j = .int (own_w F i V j) := by
  rw [n32_nat (by omega)]; unfold upd own_w; by_cases e : j = i
  · rw [if_pos e, if_pos e]
  · rw [if_neg e, if_neg e]
theorem own_okw {F : Nat → Int32} (hF : own_ok F) {i : Nat} {V : Int32} (hV : 0 ≤ V.toInt ∧ V.toInt < 128) : own_ok (own_w F i V) := fun j hj => by
  unfold own_w; by_cases e : j = i
  · rw [if_pos e]; exact hV
  · rw [if_neg e]; exact hF j hj
theorem own_weq (F : Nat → Int32) (i : Nat) (V : Int32) : own_w F i V i = V := if_pos rfl
theorem own_wne {F : Nat → Int32} {i j : Nat} {V : Int32} (h : j ≠ i) : own_w F i V j = F j := if_neg h
theorem own_len (x d : Int32) (D : Nat) (hd : d.toInt = D) (h0 : 0 < D) (h1 : D ≤ 1000) : ∃ N : Nat, N < D ∧ (x &&& 2147483647) % d = Int32.ofNat N := by
  have m := c_mask x 2147483647 31 (by decide) (by decide)
  have e : ((2 ^ 31 : Nat) : Int) = 2147483648 := rfl
  rw [e] at m
  have q := (c_irem (x &&& 2147483647) d D hd).1 (by omega)
  have r1 := Int.emod_nonneg (x &&& 2147483647).toInt (show (D : Int) ≠ 0 by omega)
  have r2 := Int.emod_lt_of_pos (x &&& 2147483647).toInt (show (0 : Int) < D by omega)
  refine ⟨((x &&& 2147483647) % d).toNatClampNeg, ?_, n32_of ?_⟩
  · simp only [Int32.toNatClampNeg]; omega
  · rw [Int32.lt_iff_toInt_lt, show (0 : Int32).toInt = 0 from rfl]; omega
theorem own_subk {K : Int32} {k N : Nat} (hK : K.toInt = k) (h : N ≤ k) (hk : k ≤ 1000) : K - Int32.ofNat N = Int32.ofNat (k - N) := by
  have a := c_isub K (Int32.ofNat N)
  have r := rng32 (K - Int32.ofNat N)
  rw [n32_toInt (by omega), hK] at a
  rw [← Int32.toInt_inj, n32_toInt (by omega)]; omega
theorem own_nz {r : Nat} (h : r ≤ 1000) : ¬ Int32.ofNat r + 1 = 0 := fun e => by
  rw [n32_succ] at e
  have q := congrArg Int32.toInt e
  rw [n32_toInt (by omega), show (0 : Int32).toInt = 0 from rfl] at q; omega
theorem own_rem (x : Int32) {r : Nat} (h : r ≤ 1000) : ∃ s : Nat, s ≤ r ∧ (x.toUInt32 >>> ((3 : Int32) &&& 31).toUInt32).toInt32 % (Int32.ofNat r + 1) = Int32.ofNat s := by
  have a := c_iushr x 3 3 (by decide) (by decide)
  have e : ((2 ^ 3 : Nat) : Int) = 8 := rfl
  rw [e] at a
  have rx := rng32 x
  rw [n32_succ]
  have q := (c_irem ((x.toUInt32 >>> ((3 : Int32) &&& 31).toUInt32).toInt32) (Int32.ofNat (r + 1)) ((r + 1 : Nat) : Int) (n32_toInt (by omega))).1 (by omega)
  have r1 := Int.emod_nonneg ((x.toUInt32 >>> ((3 : Int32) &&& 31).toUInt32).toInt32).toInt (show ((r + 1 : Nat) : Int) ≠ 0 by omega)
  have r2 := Int.emod_lt_of_pos ((x.toUInt32 >>> ((3 : Int32) &&& 31).toUInt32).toInt32).toInt (show (0 : Int) < ((r + 1 : Nat) : Int) by omega)
  refine ⟨(((x.toUInt32 >>> ((3 : Int32) &&& 31).toUInt32).toInt32) % Int32.ofNat (r + 1)).toNatClampNeg, ?_, n32_of ?_⟩
  · simp only [Int32.toNatClampNeg]; omega
  · rw [Int32.lt_iff_toInt_lt, show (0 : Int32).toInt = 0 from rfl]; omega
theorem own_hM {N : Nat} {sl : Int32} (hN : N ≤ 128) (h : 0 ≤ sl.toInt ∧ sl.toInt < 1073741824) : ¬ Int32.ofNat N + sl < Int32.ofNat N := by
  have a := c_iadd (Int32.ofNat N) sl
  have r := rng32 (Int32.ofNat N + sl)
  rw [n32_toInt (by omega)] at a
  rw [Int32.lt_iff_toInt_lt, n32_toInt (by omega)]; omega
theorem own_sl1 (x : Int32) : 0 ≤ ((x.toUInt32 >>> ((1 : Int32) &&& 31).toUInt32).toInt32 &&& 3).toInt ∧ ((x.toUInt32 >>> ((1 : Int32) &&& 31).toUInt32).toInt32 &&& 3).toInt < 1073741824 := by
  have m := c_mask ((x.toUInt32 >>> ((1 : Int32) &&& 31).toUInt32).toInt32) 3 2 (by decide) (by decide)
  have e : ((2 ^ 2 : Nat) : Int) = 4 := rfl
  rw [e] at m; omega
theorem own_sl2 (x : Int32) : 0 ≤ ((x.toUInt32 >>> ((2 : Int32) &&& 31).toUInt32).toInt32).toInt ∧ ((x.toUInt32 >>> ((2 : Int32) &&& 31).toUInt32).toInt32).toInt < 1073741824 := by
  have a := c_iushr x 2 2 (by decide) (by decide)
  have e : ((2 ^ 2 : Nat) : Int) = 4 := rfl
  rw [e] at a
  have rx := rng32 x; omega
theorem own_v7 (x : Int64) : 0 ≤ (nar .byte (x &&& 127).toInt32.toInt8.toInt32).toInt ∧ (nar .byte (x &&& 127).toInt32.toInt8.toInt32).toInt < 128 := by
  have m := c_maskL x 127 7 (by decide) (by decide)
  have e : ((2 ^ 7 : Nat) : Int) = 128 := rfl
  rw [e] at m
  have a := c_l2i (x &&& 127)
  have r := rng32 (x &&& 127).toInt32
  have b := c_i2b (x &&& 127).toInt32
  rw [own_nb]; omega
theorem own_m7 (x : Int64) {N : Nat} (h1 : 1 ≤ N) (hN : N ≤ 128) : ∃ M : Nat, M < N ∧ (x &&& 127).toInt32 % Int32.ofNat N = Int32.ofNat M := by
  have m := c_maskL x 127 7 (by decide) (by decide)
  have e : ((2 ^ 7 : Nat) : Int) = 128 := rfl
  rw [e] at m
  have a := c_l2i (x &&& 127)
  have r := rng32 (x &&& 127).toInt32
  have q := (c_irem (x &&& 127).toInt32 (Int32.ofNat N) (N : Int) (n32_toInt (by omega))).1 (by omega)
  have r1 := Int.emod_nonneg (x &&& 127).toInt32.toInt (show (N : Int) ≠ 0 by omega)
  have r2 := Int.emod_lt_of_pos (x &&& 127).toInt32.toInt (show (0 : Int) < N by omega)
  refine ⟨((x &&& 127).toInt32 % Int32.ofNat N).toNatClampNeg, ?_, n32_of ?_⟩
  · simp only [Int32.toNatClampNeg]; omega
  · rw [Int32.lt_iff_toInt_lt, show (0 : Int32).toInt = 0 from rfl]; omega
theorem own_i3 (x : Int32) : ¬ (x &&& 3) < 0 ∧ (x &&& 3) < 4 := by
  have m := c_mask x 3 2 (by decide) (by decide)
  have e : ((2 ^ 2 : Nat) : Int) = 4 := rfl
  rw [e] at m
  rw [Int32.lt_iff_toInt_lt, Int32.lt_iff_toInt_lt, show (0 : Int32).toInt = 0 from rfl, show (4 : Int32).toInt = 4 from rfl]; omega
def own_dg (x : Int32) : Int32 := nar .byte ((48 : Int32) + x).toInt8.toInt32
theorem own_dgv {x : Int32} (h : 0 ≤ x.toInt ∧ x.toInt ≤ 9) : (own_dg x).toInt = 48 + x.toInt := by
  have a := c_iadd (48 : Int32) x
  have r := rng32 ((48 : Int32) + x)
  have b := c_i2b ((48 : Int32) + x)
  rw [show (48 : Int32).toInt = 48 from rfl] at a
  unfold own_dg; rw [own_nb]; omega
theorem own_q10 {N : Nat} (h : N ≤ 999) : (Int32.ofNat N / 10).toInt = N / 10 := by
  have q := (c_idiv (Int32.ofNat N) 10 10 rfl (by decide)).1 (by rw [n32_toInt (by omega)]; omega)
  rw [q, n32_toInt (by omega)]
theorem own_q100 {N : Nat} (h : N ≤ 999) : (Int32.ofNat N / 100).toInt = N / 100 := by
  have q := (c_idiv (Int32.ofNat N) 100 100 rfl (by decide)).1 (by rw [n32_toInt (by omega)]; omega)
  rw [q, n32_toInt (by omega)]
theorem own_r10 {N : Nat} (h : N ≤ 999) : (Int32.ofNat N % 10).toInt = N % 10 := by
  have q := (c_irem (Int32.ofNat N) 10 10 rfl).1 (by rw [n32_toInt (by omega)]; omega)
  rw [q, n32_toInt (by omega)]
theorem own_qr {N : Nat} (h : N ≤ 999) : ((Int32.ofNat N / 10) % 10).toInt = (N / 10) % 10 := by
  have a := own_q10 h
  have q := (c_irem (Int32.ofNat N / 10) 10 10 rfl).1 (by rw [a]; omega)
  rw [q, a]
/-- the digits' value -/
theorem own_v2 {N : Nat} (h : N ≤ 99) {d0 d1 : Int32} (h0 : d0.toInt = 48 + N / 10) (h1 : d1.toInt = 48 + N % 10) : ((((((0 : Int32) + d0) - (48 : Int32)) * (10 : Int32)) + d1) - (48 : Int32)) = Int32.ofNat N := by
  have a1 := c_iadd (0 : Int32) d0
  have b1 := c_isub ((0 : Int32) + d0) 48
  have m1 := c_imul (((0 : Int32) + d0) - 48) 10
  have a2 := c_iadd ((((0 : Int32) + d0) - 48) * 10) d1
  have b2 := c_isub (((((0 : Int32) + d0) - 48) * 10) + d1) 48
  have r1 := rng32 ((0 : Int32) + d0)
  have r2 := rng32 (((0 : Int32) + d0) - 48)
  have r3 := rng32 ((((0 : Int32) + d0) - 48) * 10)
  have r4 := rng32 (((((0 : Int32) + d0) - 48) * 10) + d1)
  have r5 := rng32 ((((((0 : Int32) + d0) - 48) * 10) + d1) - 48)
  rw [show (0 : Int32).toInt = 0 from rfl] at a1
  rw [show (48 : Int32).toInt = 48 from rfl] at b1 b2
  rw [show (10 : Int32).toInt = 10 from rfl] at m1
  rw [← Int32.toInt_inj, n32_toInt (by omega)]; omega
theorem own_v3 {N : Nat} (h : N ≤ 999) {d0 d1 d2 : Int32} (h0 : d0.toInt = 48 + N / 100) (h1 : d1.toInt = 48 + (N / 10) % 10) (h2 : d2.toInt = 48 + N % 10) : ((((((((((0 : Int32) + d0) - (48 : Int32)) * (10 : Int32)) + d1) - (48 : Int32)) * (10 : Int32)) + d2) - (48 : Int32))) = Int32.ofNat N := by
  have a1 := c_iadd (0 : Int32) d0
  have b1 := c_isub ((0 : Int32) + d0) 48
  have m1 := c_imul (((0 : Int32) + d0) - 48) 10
  have a2 := c_iadd ((((0 : Int32) + d0) - 48) * 10) d1
  have b2 := c_isub (((((0 : Int32) + d0) - 48) * 10) + d1) 48
  have m2 := c_imul ((((((0 : Int32) + d0) - 48) * 10) + d1) - 48) 10
  have a3 := c_iadd (((((((0 : Int32) + d0) - 48) * 10) + d1) - 48) * 10) d2
  have b3 := c_isub ((((((((0 : Int32) + d0) - 48) * 10) + d1) - 48) * 10) + d2) 48
  have r1 := rng32 ((0 : Int32) + d0)
  have r2 := rng32 (((0 : Int32) + d0) - 48)
  have r3 := rng32 ((((0 : Int32) + d0) - 48) * 10)
  have r4 := rng32 (((((0 : Int32) + d0) - 48) * 10) + d1)
  have r5 := rng32 ((((((0 : Int32) + d0) - 48) * 10) + d1) - 48)
  have r6 := rng32 (((((((0 : Int32) + d0) - 48) * 10) + d1) - 48) * 10)
  have r7 := rng32 ((((((((0 : Int32) + d0) - 48) * 10) + d1) - 48) * 10) + d2)
  have r8 := rng32 (((((((((0 : Int32) + d0) - 48) * 10) + d1) - 48) * 10) + d2) - 48)
  rw [show (0 : Int32).toInt = 0 from rfl] at a1
  rw [show (48 : Int32).toInt = 48 from rfl] at b1 b2 b3
  rw [show (10 : Int32).toInt = 10 from rfl] at m1 m2
  have e1 : (((0 : Int32) + d0) - 48).toInt = N / 100 := by omega
  rw [e1] at m1
  have e2 : ((((((0 : Int32) + d0) - 48) * 10) + d1) - 48).toInt = N / 10 := by
    have : (10 : Int) * (N / 100) + (N / 10) % 10 = N / 10 := by omega
    omega
  rw [e2] at m2
  have : (10 : Int) * (N / 10) + N % 10 = N := by omega
  clear a1 b1 m1 a2 b2 r1 r2 r3 r4 r5 e1 e2 h0 h1
  have hN : N < 2147483648 := by clear m2 a3 b3 r6 r7 r8 this h2; omega
  rw [← Int32.toInt_inj, n32_toInt hN]
  omega
theorem own_nz0 {n : Nat} (h : ¬ (0 : Int32) < Int32.ofNat n) (hn : n ≤ 1000) : n = 0 := by
  rw [Int32.lt_iff_toInt_lt, n32_toInt (by omega), show (0 : Int32).toInt = 0 from rfl] at h; omega
theorem own_nz1 {n : Nat} (h : (0 : Int32) < Int32.ofNat n) (hn : n ≤ 1000) : 1 ≤ n := by
  rw [Int32.lt_iff_toInt_lt, n32_toInt (by omega), show (0 : Int32).toInt = 0 from rfl] at h; omega
theorem own_pred {n : Nat} (h : 1 ≤ n) (hn : n ≤ 1000) : Int32.ofNat n - 1 = Int32.ofNat (n - 1) := by
  have a := c_isub (Int32.ofNat n) 1
  have r := rng32 (Int32.ofNat n - 1)
  rw [n32_toInt (by omega), show (1 : Int32).toInt = 1 from rfl] at a
  rw [← Int32.toInt_inj, n32_toInt (by omega)]; omega
theorem own_ge128 {n : Nat} (h : Int32.ofNat n < (128 : Int32)) (hn : n ≤ 1000) : n < 128 := by
  rw [Int32.lt_iff_toInt_lt, n32_toInt (by omega), show (128 : Int32).toInt = 128 from rfl] at h; omega
theorem own_rdv {x : Addr} {i : Int32} {j : Nat} (hi : ¬ i < 0) (J : Int32) (hJ : J.toInt = j) (h : ¬ i = J) : upd (fun _ => Value.null) i.toNatClampNeg (.ref x) J.toNatClampNeg = .null := by
  unfold upd; rw [if_neg]
  intro e; apply h
  rw [Int32.lt_iff_toInt_lt, show (0 : Int32).toInt = 0 from rfl] at hi
  rw [← Int32.toInt_inj]; simp only [Int32.toNatClampNeg] at e; omega
theorem own_ok0 : own_ok (fun _ => (0 : Int32)) := fun _ _ => (show 0 ≤ (0 : Int32).toInt ∧ (0 : Int32).toInt < 128 from by decide)
def R_cp : Room := ({ frames := 0, cells := 0, slots := 0, locals := 0 } : Room)
set_option maxRecDepth 65536 in
set_option maxHeartbeats 40000000 in
theorem own_cp {l : Launch} {Z : State} {a0 : Array Value} (hw : ∀ d ∈ tables_1, d.before a0 Z = true) {w : Wk} {n0 : Nat} {h0 : Heap} {Y : State → Outcome → Prop} (t : Addr) (P N : Nat) (F : Nat → Int32) (C : Cx w Z "java/lang/StringCoding" jdk_123_method_3_code 5 (some .int) "countPositives" R_cp n0 (fun r h => r = some (.int (Int32.ofNat N)) ∧ h0 = h) Y) (A : Arf Z h0 t "[B" .byte (128 : Int32) (fun j => .int (F j))) (hF : own_ok F) (hPN : P + N ≤ 128) :
    ∀ (m i : Nat), i + m = N → Go w l R_cp n0 Y h0 0 0 7 #[.val (.ref t), .val (.int (Int32.ofNat P)), .val (.int (Int32.ofNat N)), .val (.int (Int32.ofNat (P + N))), .val (.int (Int32.ofNat (P + i)))] [] := by
  intro m
  induction m with
  | zero =>
    intro i hi
    refine g_iload C d10_7 (pc' := 9) rfl rfl ?_
    refine g_iloadN C d10_9 (pc' := 10) rfl rfl ?_
    refine g_icmp_ge C d10_10 (by decide) (pc' := 31) (by decide) (pcN := 13) rfl (fun _ => ?_) (fun q => absurd q (n32_ge (i := P + i) (n := P + N) (by omega) (by omega)))
    refine g_iloadN C d10_31 (pc' := 32) rfl rfl ?_
    exact g_retI C rfl d10_32 ⟨rfl, rfl⟩ (by decide) (by decide)
  | succ m ih =>
    intro i hi
    refine g_iload C d10_7 (pc' := 9) rfl rfl ?_
    refine g_iloadN C d10_9 (pc' := 10) rfl rfl ?_
    refine g_icmp_ge C d10_10 (by decide) (pc' := 31) (by decide) (pcN := 13) rfl (fun q => absurd (n32_lt (i := P + i) (n := P + N) (by omega) (by omega)) q) (fun _ => ?_)
    refine g_aloadN C d10_13 (pc' := 14) rfl rfl rfl ?_
    refine g_iload C d10_14 (pc' := 16) rfl rfl ?_
    refine g_baload C (v := (.int (F (P + i)))) A (n32_nn (by omega)) (n32_lt (n := 128) (by omega) (by omega)) (by show Value.int (F _) = _; rw [n32_nat (by omega)]) d10_16 (pc' := 17) rfl ?_
    refine g_if_ge C d10_17 (by decide) (pc' := 25) (by decide) (pcN := 20) rfl (fun _ => ?_) (fun q => absurd q (own_nn (hF (P + i) (by omega))))
    refine g_iinc C d10_25 (pc' := 28) rfl rfl (z := ((Int32.ofNat (P + i)) + (1 : Int32))) rfl (Ls' := #[.val (.ref t), .val (.int (Int32.ofNat P)), .val (.int (Int32.ofNat N)), .val (.int (Int32.ofNat (P + N))), .val (.int ((Int32.ofNat (P + i)) + (1 : Int32)))]) rfl ?_
    refine g_goto C d10_28 (by decide) (pc' := 7) (by decide) ?_
    exact by rw [n32_succ]; exact ih (i + 1) (by omega)
set_option maxRecDepth 65536 in
set_option maxHeartbeats 40000000 in
theorem cp {l : Launch} {Z : State} {a0 : Array Value} (hw : ∀ d ∈ tables_1, d.before a0 Z = true) {h0 : Heap} {n0 : Nat} (t : Addr) (P N : Nat) (F : Nat → Int32) (A : Arf Z h0 t "[B" .byte (128 : Int32) (fun j => .int (F j))) (hF : own_ok F) (hPN : P + N ≤ 128) :
    Met l Z (⟨"java/lang/StringCoding", "countPositives", "([BII)I"⟩ : MethodName) jdk_123_method_3_code 5 (some .int) R_cp n0 h0 #[(.ref t), (.int (Int32.ofNat P)), (.int (Int32.ofNat N))] (fun r h => r = some (.int (Int32.ofNat N)) ∧ h0 = h) := by
  refine Met.intro (plainFor_of_name (by first | (simp [plainName, overriddenIn, x]; done) | decide +kernel)) (fun mM => (show entryFrame mM #[(.ref t), (.int (Int32.ofNat P)), (.int (Int32.ofNat N))] 5 = mkF mM 0 #[.val (.ref t), .val (.int (Int32.ofNat P)), .val (.int (Int32.ofNat N)), .unset, .unset] [] from by first | rfl | (simp [entryFrame, mkF, argsToLocals, Value.category]; done))) (fun w Y C => ?_)
  refine g_iloadN C d10_0 (pc' := 1) rfl rfl ?_
  refine g_iloadN C d10_1 (pc' := 2) rfl rfl ?_
  refine g_iadd C d10_2 (pc' := 3) rfl ?_
  rw [← Int32.ofNat_add]
  show Go w l _ n0 _ h0 0 0 3 #[.val (.ref t), .val (.int (Int32.ofNat P)), .val (.int (Int32.ofNat N)), .unset, .unset] [(.int (Int32.ofNat (P + N)))]
  refine g_istoreN C d10_3 (pc' := 4) rfl (Ls' := #[.val (.ref t), .val (.int (Int32.ofNat P)), .val (.int (Int32.ofNat N)), .val (.int (Int32.ofNat (P + N))), .unset]) rfl ?_
  refine g_iloadN C d10_4 (pc' := 5) rfl rfl ?_
  refine g_istore C d10_5 (pc' := 7) rfl (Ls' := #[.val (.ref t), .val (.int (Int32.ofNat P)), .val (.int (Int32.ofNat N)), .val (.int (Int32.ofNat (P + N))), .val (.int (Int32.ofNat P))]) rfl ?_
  exact own_cp (C := C) hw t P N F A hF hPN N 0 (by omega)
def R_s_neg : Room := ({ frames := 1, cells := 0, slots := 0, locals := 16 } : Room)
set_option maxRecDepth 65536 in
set_option maxHeartbeats 40000000 in
theorem s_neg {l : Launch} {Z : State} {a0 : Array Value} (hw : ∀ d ∈ tables_1, d.before a0 Z = true) {h0 : Heap} {n0 : Nat} (t : Addr) (P N : Nat) (F : Nat → Int32) (A : Arf Z h0 t "[B" .byte (128 : Int32) (fun j => .int (F j))) (hF : own_ok F) (hPN : P + N ≤ 128) :
    Met l Z (⟨"java/lang/StringCoding", "hasNegatives", "([BII)Z"⟩ : MethodName) jdk_123_method_2_code 3 (some .boolean) R_s_neg n0 h0 #[(.ref t), (.int (Int32.ofNat P)), (.int (Int32.ofNat N))] (fun r h => r = some (.int 0) ∧ h0 = h) := by
  refine Met.intro (plainFor_of_name (by first | (simp [plainName, overriddenIn, x]; done) | decide +kernel)) (fun mM => (show entryFrame mM #[(.ref t), (.int (Int32.ofNat P)), (.int (Int32.ofNat N))] 3 = mkF mM 0 #[.val (.ref t), .val (.int (Int32.ofNat P)), .val (.int (Int32.ofNat N))] [] from by first | rfl | (simp [entryFrame, mkF, argsToLocals, Value.category]; done))) (fun w Y C => ?_)
  refine g_aloadN C d9_0 (pc' := 1) rfl rfl rfl ?_
  refine g_iloadN C d9_1 (pc' := 2) rfl rfl ?_
  refine g_iloadN C d9_2 (pc' := 3) rfl rfl ?_
  refine g_static (rm := R_cp) C (y := (⟨"java/lang/StringCoding", "countPositives", "([BII)I"⟩ : MethodName)) (hw _ (List.mem_of_getElem? (i := 71) rfl)) (hw _ (List.mem_of_getElem? (i := 72) rfl)) (hw _ (List.mem_of_getElem? (i := 69) rfl)) (hw _ (List.mem_of_getElem? (i := 73) rfl)) (by decide) d9_3 (pc' := 6) rfl (argsL := [(.ref t), (.int (Int32.ofNat P)), (.int (Int32.ofNat N))]) (rest := []) (lenOf pd_0 rfl) rfl (W := 0) (Nat.le_of_eq rfl) rfl (fun hn9 => Met.back (rm := R_cp) (cp hw t P N F A hF hPN) hn9 C.hZ (hw _ (List.mem_of_getElem? (i := 73) rfl)) (hw _ (List.mem_of_getElem? (i := 69) rfl)) (by decide) (by decide)) (k' := 0) (n' := 0) rfl rfl (by decide) (by decide) ?_
  rintro _ _ ⟨rfl, rfl⟩
  show Go w l _ n0 _ h0 0 0 6 #[.val (.ref t), .val (.int (Int32.ofNat P)), .val (.int (Int32.ofNat N))] [(.int (Int32.ofNat N))]
  refine g_iloadN C d9_6 (pc' := 7) rfl rfl ?_
  refine g_icmp_eq C d9_7 (by decide) (pc' := 14) (by decide) (pcN := 10) rfl (fun _ => ?_) (fun q => absurd rfl q)
  refine g_iconst C (z := (0 : Int32)) d9_14 (pc' := 15) rfl rfl ?_
  exact g_retN C (t := .boolean) rfl (by simp) d9_15 ⟨rfl, rfl⟩ (by decide) (by decide)
def R_s_chk : Room := ({ frames := 0, cells := 0, slots := 0, locals := 0 } : Room)
set_option maxRecDepth 65536 in
set_option maxHeartbeats 40000000 in
theorem s_chk {l : Launch} {Z : State} {a0 : Array Value} (hw : ∀ d ∈ tables_1, d.before a0 Z = true) {h0 : Heap} {n0 : Nat} (P N : Nat) (hPN : P + N ≤ 128) :
    Met l Z (⟨"java/util/Arrays", "checkLength", "(II)V"⟩ : MethodName) jdk_65_method_131_code 2 none R_s_chk n0 h0 #[(.int (Int32.ofNat P)), (.int (Int32.ofNat (P + N)))] (fun r h => r = none ∧ h0 = h) := by
  refine Met.intro (plainFor_of_name (by first | (simp [plainName, overriddenIn, x]; done) | decide +kernel)) (fun mM => (show entryFrame mM #[(.int (Int32.ofNat P)), (.int (Int32.ofNat (P + N)))] 2 = mkF mM 0 #[.val (.int (Int32.ofNat P)), .val (.int (Int32.ofNat (P + N)))] [] from by first | rfl | (simp [entryFrame, mkF, argsToLocals, Value.category]; done))) (fun w Y C => ?_)
  refine g_iloadN C d13_0 (pc' := 1) rfl rfl ?_
  refine g_iloadN C d13_1 (pc' := 2) rfl rfl ?_
  refine g_icmp_ge C d13_2 (by decide) (pc' := 37) (by decide) (pcN := 5) rfl (fun _ => ?_) (fun q => absurd q (n32_ge (i := P + N) (n := P) (by omega) (by omega)))
  exact g_ret C rfl d13_37 ⟨rfl, rfl⟩ (by decide) (by decide)
def R_s_min : Room := ({ frames := 0, cells := 0, slots := 0, locals := 0 } : Room)
set_option maxRecDepth 65536 in
set_option maxHeartbeats 40000000 in
theorem s_min {l : Launch} {Z : State} {a0 : Array Value} (hw : ∀ d ∈ tables_1, d.before a0 Z = true) {h0 : Heap} {n0 : Nat} (P N : Nat) (hPN : P + N ≤ 128) :
    Met l Z (⟨"java/lang/Math", "min", "(II)I"⟩ : MethodName) jdk_29_method_69_code 2 (some .int) R_s_min n0 h0 #[(.int (Int32.ofNat (128 - P))), (.int (Int32.ofNat N))] (fun r h => r = some (.int (Int32.ofNat N)) ∧ h0 = h) := by
  refine Met.intro (Jvm.Free.JP.mathPlain rfl (by decide +kernel)) (fun mM => (show entryFrame mM #[(.int (Int32.ofNat (128 - P))), (.int (Int32.ofNat N))] 2 = mkF mM 0 #[.val (.int (Int32.ofNat (128 - P))), .val (.int (Int32.ofNat N))] [] from by first | rfl | (simp [entryFrame, mkF, argsToLocals, Value.category]; done))) (fun w Y C => ?_)
  refine g_iloadN C d14_0 (pc' := 1) rfl rfl ?_
  refine g_iloadN C d14_1 (pc' := 2) rfl rfl ?_
  refine g_icmp_gt C d14_2 (by decide) (pc' := 9) (by decide) (pcN := 5) rfl (fun q2 => ?_) (fun q2 => ?_)
  · refine g_iloadN C d14_9 (pc' := 10) rfl rfl ?_
    exact g_retI C rfl d14_10 ⟨rfl, rfl⟩ (by decide) (by decide)
  · refine g_iloadN C d14_5 (pc' := 6) rfl rfl ?_
    refine g_goto C d14_6 (by decide) (pc' := 10) (by decide) ?_
    exact g_retI C rfl d14_10 ⟨by rw [own_minN hPN q2], rfl⟩ (by decide) (by decide)
def R_s_crb : Room := ({ frames := 1, cells := 1, slots := 128, locals := 18 } : Room)
set_option maxRecDepth 65536 in
set_option maxHeartbeats 40000000 in
theorem s_crb {l : Launch} {Z : State} {a0 : Array Value} (hw : ∀ d ∈ tables_1, d.before a0 Z = true) {h0 : Heap} {n0 : Nat} (t : Addr) (P N : Nat) (F : Nat → Int32) (A : Arf Z h0 t "[B" .byte (128 : Int32) (fun j => .int (F j))) (hPN : P + N ≤ 128) :
    Met l Z (⟨"java/util/Arrays", "copyOfRangeByte", "([BII)[B"⟩ : MethodName) jdk_65_method_133_code 5 (some (.array .byte)) R_s_crb n0 h0 #[(.ref t), (.int (Int32.ofNat P)), (.int (Int32.ofNat (P + N)))] (fun v h => ∃ b : Addr, v = some (.ref b) ∧ h0.size ≤ b ∧ n0 ≤ b ∧ Keep h0 h [] ∧ Arf Z h b "[B" .byte (Int32.ofNat N) (own_sub F P)) := by
  refine Met.intro (plainFor_of_name (by first | (simp [plainName, overriddenIn, x]; done) | decide +kernel)) (fun mM => (show entryFrame mM #[(.ref t), (.int (Int32.ofNat P)), (.int (Int32.ofNat (P + N)))] 5 = mkF mM 0 #[.val (.ref t), .val (.int (Int32.ofNat P)), .val (.int (Int32.ofNat (P + N))), .unset, .unset] [] from by first | rfl | (simp [entryFrame, mkF, argsToLocals, Value.category]; done))) (fun w Y C => ?_)
  have K := Keep.refl h0 []
  refine g_iloadN C d12_0 (pc' := 1) rfl rfl ?_
  refine g_iloadN C d12_1 (pc' := 2) rfl rfl ?_
  refine g_static (rm := R_s_chk) C (y := (⟨"java/util/Arrays", "checkLength", "(II)V"⟩ : MethodName)) (hw _ (List.mem_of_getElem? (i := 81) rfl)) (hw _ (List.mem_of_getElem? (i := 82) rfl)) (hw _ (List.mem_of_getElem? (i := 76) rfl)) (hw _ (List.mem_of_getElem? (i := 83) rfl)) (by decide) d12_2 (pc' := 5) rfl (argsL := [(.int (Int32.ofNat P)), (.int (Int32.ofNat (P + N)))]) (rest := []) (lenOf pd_1 rfl) rfl (W := 0) (Nat.le_of_eq rfl) rfl (fun hn9 => Met.back (rm := R_s_chk) (s_chk hw P N hPN) hn9 C.hZ (hw _ (List.mem_of_getElem? (i := 83) rfl)) (hw _ (List.mem_of_getElem? (i := 76) rfl)) (by decide) (by decide)) (k' := 0) (n' := 0) rfl rfl (by decide) (by decide) ?_
  rintro _ _ ⟨rfl, rfl⟩
  show Go w l _ n0 _ h0 0 0 5 #[.val (.ref t), .val (.int (Int32.ofNat P)), .val (.int (Int32.ofNat (P + N))), .unset, .unset] []
  refine g_iloadN C d12_5 (pc' := 6) rfl rfl ?_
  refine g_iloadN C d12_6 (pc' := 7) rfl rfl ?_
  refine g_isub C d12_7 (pc' := 8) rfl ?_
  rw [own_sub1 hPN]
  show Go w l _ n0 _ h0 0 0 8 #[.val (.ref t), .val (.int (Int32.ofNat P)), .val (.int (Int32.ofNat (P + N))), .unset, .unset] [(.int (Int32.ofNat N))]
  refine g_istoreN C d12_8 (pc' := 9) rfl (Ls' := #[.val (.ref t), .val (.int (Int32.ofNat P)), .val (.int (Int32.ofNat (P + N))), .val (.int (Int32.ofNat N)), .unset]) rfl ?_
  refine g_iloadN C d12_9 (pc' := 10) rfl rfl ?_
  refine g_newarr C (ad := "[B") (cap := 128) (hw _ (List.mem_of_getElem? (i := 4) rfl)) d12_10 (pc' := 12) rfl rfl (n32_nn (by omega)) (by rw [n32_nat (by omega)]; omega) (by decide) (k' := 1) (n' := 128) rfl rfl (by decide) (by decide) rfl ?_
  intro h41 b41 E41 fb41 gb41 A41
  have ne_t_b41 : t ≠ b41 := Nat.ne_of_lt (Nat.lt_of_lt_of_le A.lt fb41)
  have sz_b41 : h0.size ≤ b41 := Nat.le_trans K.1 fb41
  have A := A.ext E41
  have K := K.ext E41
  have A41 : Arf Z h41 b41 "[B" .byte (Int32.ofNat N) (fun _ => (.int 0)) := A41
  refine g_astore C d12_12 (pc' := 14) rfl rfl (Ls' := #[.val (.ref t), .val (.int (Int32.ofNat P)), .val (.int (Int32.ofNat (P + N))), .val (.int (Int32.ofNat N)), .val (.ref b41)]) rfl ?_
  refine g_aloadN C d12_14 (pc' := 15) rfl rfl rfl ?_
  refine g_iloadN C d12_15 (pc' := 16) rfl rfl ?_
  refine g_aload C d12_16 (pc' := 18) rfl rfl rfl ?_
  refine g_iconst C (z := (0 : Int32)) d12_18 (pc' := 19) rfl rfl ?_
  refine g_aloadN C d12_19 (pc' := 20) rfl rfl rfl ?_
  refine g_len C A d12_20 (pc' := 21) rfl ?_
  refine g_iloadN C d12_21 (pc' := 22) rfl rfl ?_
  refine g_isub C d12_22 (pc' := 23) rfl ?_
  rw [own_sub2 (by omega)]
  show Go w l _ n0 _ h41 1 128 23 #[.val (.ref t), .val (.int (Int32.ofNat P)), .val (.int (Int32.ofNat (P + N))), .val (.int (Int32.ofNat N)), .val (.ref b41)] [(.int (Int32.ofNat (128 - P))), (.int (0 : Int32)), (.ref b41), (.int (Int32.ofNat P)), (.ref t)]
  refine g_iloadN C d12_23 (pc' := 24) rfl rfl ?_
  refine g_static (rm := R_s_min) C (y := (⟨"java/lang/Math", "min", "(II)I"⟩ : MethodName)) (hw _ (List.mem_of_getElem? (i := 84) rfl)) (hw _ (List.mem_of_getElem? (i := 85) rfl)) (hw _ (List.mem_of_getElem? (i := 86) rfl)) (hw _ (List.mem_of_getElem? (i := 87) rfl)) (by decide) d12_24 (pc' := 27) rfl (argsL := [(.int (Int32.ofNat (128 - P))), (.int (Int32.ofNat N))]) (rest := [(.int (0 : Int32)), (.ref b41), (.int (Int32.ofNat P)), (.ref t)]) (lenOf pd_2 rfl) rfl (W := 4) (Nat.le_of_eq rfl) rfl (fun hn9 => Met.back (rm := R_s_min) (s_min hw P N hPN) hn9 C.hZ (hw _ (List.mem_of_getElem? (i := 87) rfl)) (hw _ (List.mem_of_getElem? (i := 86) rfl)) (by decide) (by decide)) (k' := 1) (n' := 128) rfl rfl (by decide) (by decide) ?_
  rintro _ _ ⟨rfl, rfl⟩
  show Go w l _ n0 _ h41 1 128 27 #[.val (.ref t), .val (.int (Int32.ofNat P)), .val (.int (Int32.ofNat (P + N))), .val (.int (Int32.ofNat N)), .val (.ref b41)] [(.int (Int32.ofNat N)), (.int (0 : Int32)), (.ref b41), (.int (Int32.ofNat P)), (.ref t)]
  refine g_acopy C (W := 0) (hw _ (List.mem_of_getElem? (i := 88) rfl)) (hw _ (List.mem_of_getElem? (i := 91) rfl)) (hw _ (List.mem_of_getElem? (i := 89) rfl)) (hw _ (List.mem_of_getElem? (i := 90) rfl)) A A41 rfl (n32_nn (by omega)) (by decide) (n32_nn (by omega)) (by rw [n32_nat (by omega), n32_nat (by omega)]; exact hPN) (by rw [show (0 : Int32).toNatClampNeg = 0 from rfl]; omega) gb41 d12_27 (pc' := 30) rfl rfl (by decide) (Nat.le_of_eq rfl) (by decide) (fun h42 K43 A41' => ?_)
  have A := A.keep K43 (ninS ne_t_b41 nin0)
  have K := K.trans K43 (allS (Or.inr sz_b41) all0)
  have A41 : Arf Z h42 b41 "[B" .byte (Int32.ofNat N) (fun i => if 0 ≤ i ∧ i < 0 + (Int32.ofNat N).toNatClampNeg then (fun j => .int (F j)) ((Int32.ofNat P).toNatClampNeg + (i - 0)) else (fun _ => (.int 0)) i) := A41'
  refine g_aload C d12_30 (pc' := 32) rfl rfl rfl ?_
  exact g_retA C rfl (t := (.array .byte)) rfl rfl d12_32 ⟨b41, rfl, sz_b41, gb41, K, A41.congr fun j hj => own_cpy hPN j hj⟩ (by decide) (by decide)
def R_s_cor : Room := ({ frames := 2, cells := 1, slots := 128, locals := 34 } : Room)
set_option maxRecDepth 65536 in
set_option maxHeartbeats 40000000 in
theorem s_cor {l : Launch} {Z : State} {a0 : Array Value} (hw : ∀ d ∈ tables_1, d.before a0 Z = true) {h0 : Heap} {n0 : Nat} (t : Addr) (P N : Nat) (F : Nat → Int32) (A : Arf Z h0 t "[B" .byte (128 : Int32) (fun j => .int (F j))) (hPN : P + N ≤ 128) :
    Met l Z (⟨"java/util/Arrays", "copyOfRange", "([BII)[B"⟩ : MethodName) jdk_65_method_132_code 3 (some (.array .byte)) R_s_cor n0 h0 #[(.ref t), (.int (Int32.ofNat P)), (.int (Int32.ofNat (P + N)))] (fun v h => ∃ b : Addr, v = some (.ref b) ∧ h0.size ≤ b ∧ n0 ≤ b ∧ Keep h0 h [] ∧ Arf Z h b "[B" .byte (Int32.ofNat N) (own_sub F P)) := by
  refine Met.intro (plainFor_of_name (by first | (simp [plainName, overriddenIn, x]; done) | decide +kernel)) (fun mM => (show entryFrame mM #[(.ref t), (.int (Int32.ofNat P)), (.int (Int32.ofNat (P + N)))] 3 = mkF mM 0 #[.val (.ref t), .val (.int (Int32.ofNat P)), .val (.int (Int32.ofNat (P + N)))] [] from by first | rfl | (simp [entryFrame, mkF, argsToLocals, Value.category]; done))) (fun w Y C => ?_)
  have K := Keep.refl h0 []
  refine g_iloadN C d11_0 (pc' := 1) rfl rfl ?_
  refine g_if_ne C d11_1 (by decide) (pc' := 10) (by decide) (pcN := 4) rfl (fun q1 => ?_) (fun q1 => ?_)
  · refine g_aloadN C d11_10 (pc' := 11) rfl rfl rfl ?_
    refine g_iloadN C d11_11 (pc' := 12) rfl rfl ?_
    refine g_iloadN C d11_12 (pc' := 13) rfl rfl ?_
    refine g_static (rm := R_s_crb) C (y := (⟨"java/util/Arrays", "copyOfRangeByte", "([BII)[B"⟩ : MethodName)) (hw _ (List.mem_of_getElem? (i := 78) rfl)) (hw _ (List.mem_of_getElem? (i := 79) rfl)) (hw _ (List.mem_of_getElem? (i := 76) rfl)) (hw _ (List.mem_of_getElem? (i := 80) rfl)) (by decide) d11_13 (pc' := 16) rfl (argsL := [(.ref t), (.int (Int32.ofNat P)), (.int (Int32.ofNat (P + N)))]) (rest := []) (lenOf pd_3 rfl) rfl (W := 0) (Nat.le_of_eq rfl) rfl (fun hn9 => Met.back (rm := R_s_crb) (s_crb hw t P N F A hPN) hn9 C.hZ (hw _ (List.mem_of_getElem? (i := 80) rfl)) (hw _ (List.mem_of_getElem? (i := 76) rfl)) (by decide) (by decide)) (k' := 1) (n' := 128) rfl rfl (by decide) (by decide) ?_
    rintro _ h44 ⟨b, rfl, szb, gb, Kb, B⟩
    have ne_t_b : t ≠ b := Nat.ne_of_lt (Nat.lt_of_lt_of_le A.lt szb)
    have sz_b : h0.size ≤ b := Nat.le_trans K.1 szb
    have A := A.keep Kb nin0
    have K := K.trans Kb (by intro x hx; simp at hx)
    show Go w l _ n0 _ h44 1 128 16 #[.val (.ref t), .val (.int (Int32.ofNat P)), .val (.int (Int32.ofNat (P + N)))] [(.ref b)]
    exact g_retA C rfl (t := (.array .byte)) rfl rfl d11_16 ⟨b, rfl, sz_b, gb, K, B⟩ (by decide) (by decide)
  · refine g_iloadN C d11_4 (pc' := 5) rfl rfl ?_
    refine g_aloadN C d11_5 (pc' := 6) rfl rfl rfl ?_
    refine g_len C A d11_6 (pc' := 7) rfl ?_
    refine g_icmp_eq C d11_7 (by decide) (pc' := 17) (by decide) (pcN := 10) rfl (fun q7 => ?_) (fun q7 => ?_)
    · refine g_aloadN C d11_17 (pc' := 18) rfl rfl rfl ?_
      refine g_clone (ad := "[B") (cap := 128) C (W := 0) (hw _ (List.mem_of_getElem? (i := 130) rfl)) (hw _ (List.mem_of_getElem? (i := 131) rfl)) (hw _ (List.mem_of_getElem? (i := 135) rfl)) (hw _ (List.mem_of_getElem? (i := 133) rfl)) (hw _ (List.mem_of_getElem? (i := 134) rfl)) (hw _ (List.mem_of_getElem? (i := 136) rfl)) A d11_18 (pc' := 21) rfl rfl (by decide) (Nat.le_of_eq rfl) (by decide) (by decide) (k' := 1) (n' := 128) rfl rfl (by decide) (by decide) ?_
      intro h45 b45 E45 fb45 gb45 A45
      have ne_t_b45 : t ≠ b45 := Nat.ne_of_lt (Nat.lt_of_lt_of_le A.lt fb45)
      have sz_b45 : h0.size ≤ b45 := Nat.le_trans K.1 fb45
      have A := A.ext E45
      have K := K.ext E45
      refine g_cast C (hw _ (List.mem_of_getElem? (i := 137) rfl)) (Ins.self A45.exa) d11_21 (pc' := 24) rfl ?_
      exact g_retA C rfl (t := (.array .byte)) rfl rfl d11_24 ⟨b45, rfl, sz_b45, gb45, K, own_cl A45 q1 q7 hPN⟩ (by decide) (by decide)
    · refine g_aloadN C d11_10 (pc' := 11) rfl rfl rfl ?_
      refine g_iloadN C d11_11 (pc' := 12) rfl rfl ?_
      refine g_iloadN C d11_12 (pc' := 13) rfl rfl ?_
      refine g_static (rm := R_s_crb) C (y := (⟨"java/util/Arrays", "copyOfRangeByte", "([BII)[B"⟩ : MethodName)) (hw _ (List.mem_of_getElem? (i := 78) rfl)) (hw _ (List.mem_of_getElem? (i := 79) rfl)) (hw _ (List.mem_of_getElem? (i := 76) rfl)) (hw _ (List.mem_of_getElem? (i := 80) rfl)) (by decide) d11_13 (pc' := 16) rfl (argsL := [(.ref t), (.int (Int32.ofNat P)), (.int (Int32.ofNat (P + N)))]) (rest := []) (lenOf pd_3 rfl) rfl (W := 0) (Nat.le_of_eq rfl) rfl (fun hn9 => Met.back (rm := R_s_crb) (s_crb hw t P N F A hPN) hn9 C.hZ (hw _ (List.mem_of_getElem? (i := 80) rfl)) (hw _ (List.mem_of_getElem? (i := 76) rfl)) (by decide) (by decide)) (k' := 1) (n' := 128) rfl rfl (by decide) (by decide) ?_
      rintro _ h46 ⟨b, rfl, szb, gb, Kb, B⟩
      have ne_t_b : t ≠ b := Nat.ne_of_lt (Nat.lt_of_lt_of_le A.lt szb)
      have sz_b : h0.size ≤ b := Nat.le_trans K.1 szb
      have A := A.keep Kb nin0
      have K := K.trans Kb (by intro x hx; simp at hx)
      show Go w l _ n0 _ h46 1 128 16 #[.val (.ref t), .val (.int (Int32.ofNat P)), .val (.int (Int32.ofNat (P + N)))] [(.ref b)]
      exact g_retA C rfl (t := (.array .byte)) rfl rfl d11_16 ⟨b, rfl, sz_b, gb, K, B⟩ (by decide) (by decide)
def R_s_nn : Room := ({ frames := 0, cells := 0, slots := 0, locals := 0 } : Room)
set_option maxRecDepth 65536 in
set_option maxHeartbeats 40000000 in
theorem s_nn {l : Launch} {Z : State} {a0 : Array Value} (hw : ∀ d ∈ tables_1, d.before a0 Z = true) {h0 : Heap} {n0 : Nat} (a : Addr)  :
    Met l Z (⟨"java/util/Objects", "requireNonNull", "(Ljava/lang/Object;)Ljava/lang/Object;"⟩ : MethodName) jdk_31_method_10_code 1 (some (.object "java/lang/Object")) R_s_nn n0 h0 #[(.ref a)] (fun r h => r = some (.ref a) ∧ h0 = h) := by
  refine Met.intro (plainFor_of_name (by first | (simp [plainName, overriddenIn, x]; done) | decide +kernel)) (fun mM => (show entryFrame mM #[(.ref a)] 1 = mkF mM 0 #[.val (.ref a)] [] from by first | rfl | (simp [entryFrame, mkF, argsToLocals, Value.category]; done))) (fun w Y C => ?_)
  refine g_aloadN C d6_0 (pc' := 1) rfl rfl rfl ?_
  refine g_ifnonnullY C d6_1 (by decide) (pc' := 12) (by decide) ?_
  refine g_aloadN C d6_12 (pc' := 13) rfl rfl rfl ?_
  exact g_retA C rfl (t := (.object "java/lang/Object")) rfl rfl d6_13 ⟨rfl, rfl⟩ (by decide) (by decide)
def R_s_cfi : Room := ({ frames := 0, cells := 0, slots := 0, locals := 0 } : Room)
set_option maxRecDepth 65536 in
set_option maxHeartbeats 40000000 in
theorem s_cfi {l : Launch} {Z : State} {a0 : Array Value} (hw : ∀ d ∈ tables_1, d.before a0 Z = true) {h0 : Heap} {n0 : Nat} (P N : Nat) (G3 : Value) (hPN : P + N ≤ 128) (rG3 : G3.isRef = true) :
    Met l Z (⟨"jdk/internal/util/Preconditions", "checkFromIndexSize", "(IIILjava/util/function/BiFunction;)I"⟩ : MethodName) jdk_41_method_13_code 4 (some .int) R_s_cfi n0 h0 #[(.int (Int32.ofNat P)), (.int (Int32.ofNat N)), (.int (128 : Int32)), G3] (fun r h => r = some (.int (Int32.ofNat P)) ∧ h0 = h) := by
  refine Met.intro (plainFor_of_name (by first | (simp [plainName, overriddenIn, x]; done) | decide +kernel)) (fun mM => (show entryFrame mM #[(.int (Int32.ofNat P)), (.int (Int32.ofNat N)), (.int (128 : Int32)), G3] 4 = mkF mM 0 #[.val (.int (Int32.ofNat P)), .val (.int (Int32.ofNat N)), .val (.int (128 : Int32)), .val G3] [] from by first | rfl | (simp [entryFrame, mkF, argsToLocals, Value.category]; done) | (rcases ref_cases rG3 with rfl | ⟨_, rfl⟩ <;> rfl))) (fun w Y C => ?_)
  refine g_iloadN C d8_0 (pc' := 1) rfl rfl ?_
  refine g_iloadN C d8_1 (pc' := 2) rfl rfl ?_
  refine g_ior C d8_2 (pc' := 3) rfl ?_
  refine g_iloadN C d8_3 (pc' := 4) rfl rfl ?_
  refine g_ior C d8_4 (pc' := 5) rfl ?_
  refine g_if_lt C d8_5 (by decide) (pc' := 15) (by decide) (pcN := 8) rfl (fun q => absurd q (own_or3 hPN)) (fun _ => ?_)
  refine g_iloadN C d8_8 (pc' := 9) rfl rfl ?_
  refine g_iloadN C d8_9 (pc' := 10) rfl rfl ?_
  refine g_iloadN C d8_10 (pc' := 11) rfl rfl ?_
  refine g_isub C d8_11 (pc' := 12) rfl ?_
  refine g_icmp_le C d8_12 (by decide) (pc' := 23) (by decide) (pcN := 15) rfl (fun _ => ?_) (fun q => absurd q (by rw [own_sub2 (by omega)]; exact n32_ge (by omega) (by omega)))
  refine g_iloadN C d8_23 (pc' := 24) rfl rfl ?_
  exact g_retI C rfl d8_24 ⟨rfl, rfl⟩ (by decide) (by decide)
def R_s_cbo : Room := ({ frames := 1, cells := 0, slots := 0, locals := 15 } : Room)
set_option maxRecDepth 65536 in
set_option maxHeartbeats 40000000 in
theorem s_cbo {l : Launch} {Z : State} {a0 : Array Value} (hw : ∀ d ∈ tables_1, d.before a0 Z = true) {h0 : Heap} {n0 : Nat} (P N : Nat) (G3 : Value) (hPN : P + N ≤ 128) (O4 : Sta Z Z.heap "jdk/internal/util/Preconditions" "SIOOBE_FORMATTER" "Ljava/util/function/BiFunction;" G3) (rG3 : G3.isRef = true) (X : Old Z n0 h0) :
    Met l Z (⟨"java/lang/String", "checkBoundsOffCount", "(III)I"⟩ : MethodName) jdk_42_method_157_code 3 (some .int) R_s_cbo n0 h0 #[(.int (Int32.ofNat P)), (.int (Int32.ofNat N)), (.int (128 : Int32))] (fun r h => r = some (.int (Int32.ofNat P)) ∧ h0 = h) := by
  refine Met.intro (plainFor_of_name (by first | (simp [plainName, overriddenIn, x]; done) | decide +kernel)) (fun mM => (show entryFrame mM #[(.int (Int32.ofNat P)), (.int (Int32.ofNat N)), (.int (128 : Int32))] 3 = mkF mM 0 #[.val (.int (Int32.ofNat P)), .val (.int (Int32.ofNat N)), .val (.int (128 : Int32))] [] from by first | rfl | (simp [entryFrame, mkF, argsToLocals, Value.category]; done))) (fun w Y C => ?_)
  refine g_iloadN C d7_0 (pc' := 1) rfl rfl ?_
  refine g_iloadN C d7_1 (pc' := 2) rfl rfl ?_
  refine g_iloadN C d7_2 (pc' := 3) rfl rfl ?_
  refine g_getS (host := "") C (Or.inl (hw _ (List.mem_of_getElem? (i := 50) rfl))) Via.refl (O4.ext X.2) d7_3 (pc' := 6) rfl ?_
  refine g_static (rm := R_s_cfi) C (y := (⟨"jdk/internal/util/Preconditions", "checkFromIndexSize", "(IIILjava/util/function/BiFunction;)I"⟩ : MethodName)) (hw _ (List.mem_of_getElem? (i := 52) rfl)) (hw _ (List.mem_of_getElem? (i := 53) rfl)) (hw _ (List.mem_of_getElem? (i := 51) rfl)) (hw _ (List.mem_of_getElem? (i := 54) rfl)) (by decide) d7_6 (pc' := 9) rfl (argsL := [(.int (Int32.ofNat P)), (.int (Int32.ofNat N)), (.int (128 : Int32)), G3]) (rest := []) (lenOf pd_4 rfl) rfl (W := 0) (Nat.le_of_eq rfl) rfl (fun hn9 => Met.back (rm := R_s_cfi) (s_cfi hw P N G3 hPN rG3) hn9 C.hZ (hw _ (List.mem_of_getElem? (i := 54) rfl)) (hw _ (List.mem_of_getElem? (i := 51) rfl)) (by decide) (by decide)) (k' := 0) (n' := 0) rfl rfl (by decide) (by decide) ?_
  rintro _ _ ⟨rfl, rfl⟩
  show Go w l _ n0 _ h0 0 0 9 #[.val (.int (Int32.ofNat P)), .val (.int (Int32.ofNat N)), .val (.int (128 : Int32))] [(.int (Int32.ofNat P))]
  exact g_retI C rfl d7_9 ⟨rfl, rfl⟩ (by decide) (by decide)
def R_s_in : Room := ({ frames := 3, cells := 1, slots := 128, locals := 49 } : Room)
set_option maxRecDepth 65536 in
set_option maxHeartbeats 40000000 in
theorem s_in {l : Launch} {Z : State} {a0 : Array Value} (hw : ∀ d ∈ tables_1, d.before a0 Z = true) {h0 : Heap} {n0 : Nat} (x cs u8 iso : Addr) (t : Addr) (P N : Nat) (F : Nat → Int32) (G1 : Int32) (F1 : Fld Z h0 x "java/lang/String" "value" "[B" .null) (F2 : Fld Z h0 x "java/lang/String" "coder" "B" (.int 0)) (E : Exa Z h0 x "java/lang/String") (gx : n0 ≤ x) (A : Arf Z h0 t "[B" .byte (128 : Int32) (fun j => .int (F j))) (hF : own_ok F) (hPN : P + N ≤ 128) (h1 : 1 ≤ N) (O2 : Sta Z Z.heap "java/lang/String" "COMPACT_STRINGS" "Z" (.int G1)) (P5 : ¬ G1 = 0) (Ou : Sta Z Z.heap "sun/nio/cs/UTF_8" "INSTANCE" "Lsun/nio/cs/UTF_8;" (.ref u8)) (Oi : Sta Z Z.heap "sun/nio/cs/ISO_8859_1" "INSTANCE" "Lsun/nio/cs/ISO_8859_1;" (.ref iso)) (Oa : Sta Z Z.heap "sun/nio/cs/US_ASCII" "INSTANCE" "Lsun/nio/cs/US_ASCII;" (.ref cs)) (ne_cs_u8 : cs ≠ u8) (ne_cs_iso : cs ≠ iso) (X : Old Z n0 h0) :
    MetH l Z (⟨"java/lang/String", "<init>", "(Ljava/nio/charset/Charset;[BII)V"⟩ : MethodName) jdk_42_method_11_code 11 none [(800, 813, 816, 202)] R_s_in n0 h0 #[(.ref x), (.ref cs), (.ref t), (.int (Int32.ofNat P)), (.int (Int32.ofNat N))] (fun v h => v = none ∧ Keep h0 h [x] ∧ own_Str Z h x N (own_sub F P)) := by
  refine MetH.intro (plainFor_of_name (by first | (simp [plainName, overriddenIn, x]; done) | decide +kernel)) (fun mM => (show entryFrame mM #[(.ref x), (.ref cs), (.ref t), (.int (Int32.ofNat P)), (.int (Int32.ofNat N))] 11 = mkF mM 0 #[.val (.ref x), .val (.ref cs), .val (.ref t), .val (.int (Int32.ofNat P)), .val (.int (Int32.ofNat N)), .unset, .unset, .unset, .unset, .unset, .unset] [] from by first | rfl | (simp [entryFrame, mkF, argsToLocals, Value.category]; done))) (fun w Y C => ?_)
  have K := Keep.refl h0 [x]
  refine g_aloadN C d22_0 (pc' := 1) rfl rfl rfl ?_
  refine g_initO C (W := 0) (hw _ (List.mem_of_getElem? (i := 59) rfl)) (hw _ (List.mem_of_getElem? (i := 20) rfl)) (hw _ (List.mem_of_getElem? (i := 21) rfl)) d22_1 (pc' := 4) rfl rfl (by decide) (Nat.le_of_eq rfl) (by decide) ?_
  refine g_iload C d22_4 (pc' := 6) rfl rfl ?_
  refine g_if_ne C d22_6 (by decide) (pc' := 30) (by decide) (pcN := 9) rfl (fun _ => ?_) (fun q => absurd q (own_n0 h1 (by omega)))
  refine g_aloadN C d22_30 (pc' := 31) rfl rfl rfl ?_
  refine g_getS (host := "") C (Or.inl (hw _ (List.mem_of_getElem? (i := 60) rfl))) Via.refl (Ou.ext X.2) d22_31 (pc' := 34) rfl ?_
  refine g_acmp C rfl rfl false d22_34 (by decide) (decide_eq_false fun q => ne_cs_u8 (Value.ref.inj q)) (pc' := 346) (by decide) ?_
  refine g_aloadN C d22_346 (pc' := 347) rfl rfl rfl ?_
  refine g_getS (host := "") C (Or.inl (hw _ (List.mem_of_getElem? (i := 62) rfl))) Via.refl (Oi.ext X.2) d22_347 (pc' := 350) rfl ?_
  refine g_acmp C rfl rfl false d22_350 (by decide) (decide_eq_false fun q => ne_cs_iso (Value.ref.inj q)) (pc' := 399) (by decide) ?_
  refine g_aloadN C d22_399 (pc' := 400) rfl rfl rfl ?_
  refine g_getS (host := "") C (Or.inl (hw _ (List.mem_of_getElem? (i := 64) rfl))) Via.refl (Oa.ext X.2) d22_400 (pc' := 403) rfl ?_
  refine g_acmp C rfl rfl true d22_403 (by decide) (decide_eq_true rfl) (pc' := 406) (by decide) ?_
  refine g_getS (host := "") C (Or.inl (hw _ (List.mem_of_getElem? (i := 66) rfl))) Via.refl (O2.ext X.2) d22_406 (pc' := 409) rfl ?_
  refine g_if_eq C d22_409 (by decide) (pc' := 443) (by decide) (pcN := 412) rfl (fun q => absurd q P5) (fun _ => ?_)
  refine g_aloadN C d22_412 (pc' := 413) rfl rfl rfl ?_
  refine g_iloadN C d22_413 (pc' := 414) rfl rfl ?_
  refine g_iload C d22_414 (pc' := 416) rfl rfl ?_
  refine g_static (rm := R_s_neg) C (y := (⟨"java/lang/StringCoding", "hasNegatives", "([BII)Z"⟩ : MethodName)) (hw _ (List.mem_of_getElem? (i := 67) rfl)) (hw _ (List.mem_of_getElem? (i := 68) rfl)) (hw _ (List.mem_of_getElem? (i := 69) rfl)) (hw _ (List.mem_of_getElem? (i := 70) rfl)) (by decide) d22_416 (pc' := 419) rfl (argsL := [(.ref t), (.int (Int32.ofNat P)), (.int (Int32.ofNat N))]) (rest := []) (lenOf pd_5 rfl) rfl (W := 0) (Nat.le_of_eq rfl) rfl (fun hn9 => Met.back (rm := R_s_neg) (s_neg hw t P N F A hF hPN) hn9 C.hZ (hw _ (List.mem_of_getElem? (i := 70) rfl)) (hw _ (List.mem_of_getElem? (i := 69) rfl)) (by decide) (by decide)) (k' := 0) (n' := 0) rfl rfl (by decide) (by decide) ?_
  rintro _ _ ⟨rfl, rfl⟩
  show Go w l _ n0 _ h0 0 0 419 #[.val (.ref x), .val (.ref cs), .val (.ref t), .val (.int (Int32.ofNat P)), .val (.int (Int32.ofNat N)), .unset, .unset, .unset, .unset, .unset, .unset] [(.int (0 : Int32))]
  refine g_if_ne C d22_419 (by decide) (pc' := 443) (by decide) (pcN := 422) rfl (fun q => absurd rfl q) (fun _ => ?_)
  refine g_aloadN C d22_422 (pc' := 423) rfl rfl rfl ?_
  refine g_aloadN C d22_423 (pc' := 424) rfl rfl rfl ?_
  refine g_iloadN C d22_424 (pc' := 425) rfl rfl ?_
  refine g_iloadN C d22_425 (pc' := 426) rfl rfl ?_
  refine g_iload C d22_426 (pc' := 428) rfl rfl ?_
  refine g_iadd C d22_428 (pc' := 429) rfl ?_
  rw [← Int32.ofNat_add]
  show Go w l _ n0 _ h0 0 0 429 #[.val (.ref x), .val (.ref cs), .val (.ref t), .val (.int (Int32.ofNat P)), .val (.int (Int32.ofNat N)), .unset, .unset, .unset, .unset, .unset, .unset] [(.int (Int32.ofNat (P + N))), (.int (Int32.ofNat P)), (.ref t), (.ref x)]
  refine g_static (rm := R_s_cor) C (y := (⟨"java/util/Arrays", "copyOfRange", "([BII)[B"⟩ : MethodName)) (hw _ (List.mem_of_getElem? (i := 74) rfl)) (hw _ (List.mem_of_getElem? (i := 75) rfl)) (hw _ (List.mem_of_getElem? (i := 76) rfl)) (hw _ (List.mem_of_getElem? (i := 77) rfl)) (by decide) d22_429 (pc' := 432) rfl (argsL := [(.ref t), (.int (Int32.ofNat P)), (.int (Int32.ofNat (P + N)))]) (rest := [(.ref x)]) (lenOf pd_3 rfl) rfl (W := 1) (Nat.le_of_eq rfl) rfl (fun hn9 => Met.back (rm := R_s_cor) (s_cor hw t P N F A hPN) hn9 C.hZ (hw _ (List.mem_of_getElem? (i := 77) rfl)) (hw _ (List.mem_of_getElem? (i := 76) rfl)) (by decide) (by decide)) (k' := 1) (n' := 128) rfl rfl (by decide) (by decide) ?_
  rintro _ h47 ⟨b, rfl, szb, gb, Kb, B⟩
  have ne_x_b : x ≠ b := Nat.ne_of_lt (Nat.lt_of_lt_of_le F1.lt szb)
  have ne_t_b : t ≠ b := Nat.ne_of_lt (Nat.lt_of_lt_of_le A.lt szb)
  have sz_b : h0.size ≤ b := Nat.le_trans K.1 szb
  have F1 := F1.keep Kb nin0
  have F2 := F2.keep Kb nin0
  have E := E.keep Kb
  have X := X.keep Kb all0
  have A := A.keep Kb nin0
  have K := K.trans Kb (by intro x hx; simp at hx)
  show Go w l _ n0 _ h47 1 128 432 #[.val (.ref x), .val (.ref cs), .val (.ref t), .val (.int (Int32.ofNat P)), .val (.int (Int32.ofNat N)), .unset, .unset, .unset, .unset, .unset, .unset] [(.ref b), (.ref x)]
  refine g_putF (host := "") C (Or.inl (hw _ (List.mem_of_getElem? (i := 92) rfl))) Via.refl F1 E (Or.inr ⟨(hw _ (List.mem_of_getElem? (i := 93) rfl)), rfl, rfl⟩) (hw _ (List.mem_of_getElem? (i := 34) rfl)) (ty := (.array .byte)) (by decide) rfl rfl d22_432 (pc' := 435) rfl gx (fun h48 W49 => ?_)
  have F1 := F1.same W49
  have F2 := F2.other W49 (Or.inr (slot_ne (Or.inr (hw _ (List.mem_of_getElem? (i := 95) rfl)) : Laid Z a0 "java/lang/String" "java/lang/String" "coder" "B") (Or.inr (hw _ (List.mem_of_getElem? (i := 93) rfl)) : Laid Z a0 "java/lang/String" "java/lang/String" "value" "[B") (by decide) (t := .byte) (t' := (.array .byte)) (by decide) (by decide)))
  have E := E.wr W49
  have X := X.wr W49 gx
  have K := K.wr W49 (Or.inl (by simp))
  have B := B.other W49 (Ne.symm ne_x_b)
  refine g_aloadN C d22_435 (pc' := 436) rfl rfl rfl ?_
  refine g_iconst C (z := (0 : Int32)) d22_436 (pc' := 437) rfl rfl ?_
  refine g_putFN C (hw _ (List.mem_of_getElem? (i := 94) rfl)) Via.refl F2 E (Or.inr ⟨(hw _ (List.mem_of_getElem? (i := 95) rfl)), rfl, rfl⟩) (hw _ (List.mem_of_getElem? (i := 34) rfl)) (ty := .byte) (v' := (.int (0 : Int32))) (by decide) rfl rfl d22_437 (pc' := 440) rfl gx (fun h50 W51 => ?_)
  have F2 := F2.same W51
  have F1 := F1.other W51 (Or.inr (slot_ne (Or.inr (hw _ (List.mem_of_getElem? (i := 93) rfl)) : Laid Z a0 "java/lang/String" "java/lang/String" "value" "[B") (Or.inr (hw _ (List.mem_of_getElem? (i := 95) rfl)) : Laid Z a0 "java/lang/String" "java/lang/String" "coder" "B") (by decide) (t := (.array .byte)) (t' := .byte) (by decide) (by decide)))
  have E := E.wr W51
  have X := X.wr W51 gx
  have K := K.wr W51 (Or.inl (by simp))
  have B := B.other W51 (Ne.symm ne_x_b)
  refine g_goto C d22_440 (by decide) (pc' := 879) (by decide) ?_
  exact g_ret C rfl d22_879 ⟨rfl, K, E, b, F2, F1, Arw.of_arf B⟩ (by decide) (by decide)
def R_s_in0 : Room := ({ frames := 1, cells := 2, slots := 4, locals := 12 } : Room)
set_option maxRecDepth 65536 in
set_option maxHeartbeats 40000000 in
theorem s_in0 {l : Launch} {Z : State} {a0 : Array Value} (hw : ∀ d ∈ tables_1, d.before a0 Z = true) {h0 : Heap} {n0 : Nat} (x cs t : Addr) (P : Nat) (F : Nat → Int32) (F1 : Fld Z h0 x "java/lang/String" "value" "[B" .null) (F2 : Fld Z h0 x "java/lang/String" "coder" "B" (.int 0)) (E : Exa Z h0 x "java/lang/String") (gx : n0 ≤ x) (X : Old Z n0 h0) (hh : Jvm.Lit.constHeld Z "java/lang/String" 7) (hcw : Jvm.Lit.compactW.before a0 Z = true) :
    MetHI l Z (⟨"java/lang/String", "<init>", "(Ljava/nio/charset/Charset;[BII)V"⟩ : MethodName) jdk_42_method_11_code 11 none [(800, 813, 816, 202)] R_s_in0 n0 h0 #[(.ref x), (.ref cs), (.ref t), (.int (Int32.ofNat P)), (.int (0 : Int32))] (fun v h => v = none ∧ Keep h0 h [x] ∧ own_Str Z h x 0 (own_sub F P)) := by
  refine MetHI.intro1 (plainFor_of_name (by first | (simp [plainName, overriddenIn, x]; done) | decide +kernel)) (fun mM => (show entryFrame mM #[(.ref x), (.ref cs), (.ref t), (.int (Int32.ofNat P)), (.int (0 : Int32))] 11 = mkF mM 0 #[.val (.ref x), .val (.ref cs), .val (.ref t), .val (.int (Int32.ofNat P)), .val (.int (0 : Int32)), .unset, .unset, .unset, .unset, .unset, .unset] [] from by first | rfl | (simp [entryFrame, mkF, argsToLocals, Value.category]; done))) (fun w Y C CW hH hI hn => ?_)
  have C0 := C
  have C := C.up hn
  have K := Keep.refl h0 [x]
  refine g_aloadN C d22_0 (pc' := 1) rfl rfl rfl ?_
  refine g_initO C (W := 0) (hw _ (List.mem_of_getElem? (i := 59) rfl)) (hw _ (List.mem_of_getElem? (i := 20) rfl)) (hw _ (List.mem_of_getElem? (i := 21) rfl)) d22_1 (pc' := 4) rfl rfl (by decide) (Nat.le_of_eq rfl) (by decide) ?_
  refine g_iload C d22_4 (pc' := 6) rfl rfl ?_
  refine g_if_ne C d22_6 (by decide) (pc' := 30) (by decide) (pcN := 9) rfl (fun q => absurd rfl q) (fun _ => ?_)
  refine g_aloadN C d22_9 (pc' := 10) rfl rfl rfl ?_
  refine g_ldcV (n0 := n0) C0 CW (z := (0 : Int32)) (m := 0) (by rw [hH]) hn (by rw [hH]; exact X.2) hI (hw _ (List.mem_of_getElem? (i := 139) rfl)) (fun d hd => hw d (own_strAtoms d hd)) hh hcw own_ht0 (by decide) rfl d22_10 (pc' := 12) rfl (by decide) (by decide) (k' := 2) (n' := 4) rfl rfl (by decide) (by decide) ?_
  intro w h1 s1 b kb C CW E1 Es Fcs Fvs Av L1
  have F1 := F1.ext E1
  have F2 := F2.ext E1
  have E := E.ext E1
  have X := X.ext E1
  have K := K.ext E1
  have ne_x_b : x ≠ b := Exa.neArv E Av (hw _ (List.mem_of_getElem? (i := 34) rfl))
  have B := Arw.of_arv Av
  refine g_getF (host := "") C (Or.inl (hw _ (List.mem_of_getElem? (i := 92) rfl))) Via.refl Fvs d22_12 (pc' := 15) rfl ?_
  refine g_putF (host := "") C (Or.inl (hw _ (List.mem_of_getElem? (i := 92) rfl))) Via.refl F1 E (Or.inr ⟨(hw _ (List.mem_of_getElem? (i := 93) rfl)), rfl, rfl⟩) (hw _ (List.mem_of_getElem? (i := 34) rfl)) (ty := (.array .byte)) (by decide) rfl rfl d22_15 (pc' := 18) rfl gx (fun h52 W53 => ?_)
  have F1 := F1.same W53
  have F2 := F2.other W53 (Or.inr (slot_ne (Or.inr (hw _ (List.mem_of_getElem? (i := 95) rfl)) : Laid Z a0 "java/lang/String" "java/lang/String" "coder" "B") (Or.inr (hw _ (List.mem_of_getElem? (i := 93) rfl)) : Laid Z a0 "java/lang/String" "java/lang/String" "value" "[B") (by decide) (t := .byte) (t' := (.array .byte)) (by decide) (by decide)))
  have E := E.wr W53
  have X := X.wr W53 gx
  have K := K.wr W53 (Or.inl (by simp))
  have Fcs := Fcs.other W53 (Or.inr (slot_ne (Or.inr (hw _ (List.mem_of_getElem? (i := 95) rfl)) : Laid Z a0 "java/lang/String" "java/lang/String" "coder" "B") (Or.inr (hw _ (List.mem_of_getElem? (i := 93) rfl)) : Laid Z a0 "java/lang/String" "java/lang/String" "value" "[B") (by decide) (t := .byte) (t' := (.array .byte)) (by decide) (by decide)))
  have B := B.other W53 (Ne.symm ne_x_b)
  refine g_aloadN C d22_18 (pc' := 19) rfl rfl rfl ?_
  refine g_ldcAgain C (hw _ (List.mem_of_getElem? (i := 139) rfl)) L1 d22_19 (pc' := 21) rfl ?_
  refine g_getF (host := "") C (Or.inl (hw _ (List.mem_of_getElem? (i := 94) rfl))) Via.refl Fcs d22_21 (pc' := 24) rfl ?_
  refine g_putFN C (hw _ (List.mem_of_getElem? (i := 94) rfl)) Via.refl F2 E (Or.inr ⟨(hw _ (List.mem_of_getElem? (i := 95) rfl)), rfl, rfl⟩) (hw _ (List.mem_of_getElem? (i := 34) rfl)) (ty := .byte) (v' := (.int (0 : Int32))) (by decide) rfl rfl d22_24 (pc' := 27) rfl gx (fun h54 W55 => ?_)
  have F2 := F2.same W55
  have F1 := F1.other W55 (Or.inr (slot_ne (Or.inr (hw _ (List.mem_of_getElem? (i := 93) rfl)) : Laid Z a0 "java/lang/String" "java/lang/String" "value" "[B") (Or.inr (hw _ (List.mem_of_getElem? (i := 95) rfl)) : Laid Z a0 "java/lang/String" "java/lang/String" "coder" "B") (by decide) (t := (.array .byte)) (t' := .byte) (by decide) (by decide)))
  have E := E.wr W55
  have X := X.wr W55 gx
  have K := K.wr W55 (Or.inl (by simp))
  have B := B.other W55 (Ne.symm ne_x_b)
  refine g_goto C d22_27 (by decide) (pc' := 879) (by decide) ?_
  exact g_ret C rfl d22_879 ⟨rfl, K, E, b, F2, F1, B.congr (fun j hj => absurd hj (Nat.not_lt_zero j))⟩ (by decide) (by decide)
def R_s_out : Room := ({ frames := 4, cells := 1, slots := 128, locals := 71 } : Room)
set_option maxRecDepth 65536 in
set_option maxHeartbeats 40000000 in
theorem s_out {l : Launch} {Z : State} {a0 : Array Value} (hw : ∀ d ∈ tables_1, d.before a0 Z = true) {h0 : Heap} {n0 : Nat} (x cs u8 iso : Addr) (t : Addr) (P N : Nat) (F : Nat → Int32) (G1 : Int32) (G3 : Value) (F1 : Fld Z h0 x "java/lang/String" "value" "[B" .null) (F2 : Fld Z h0 x "java/lang/String" "coder" "B" (.int 0)) (E : Exa Z h0 x "java/lang/String") (gx : n0 ≤ x) (A : Arf Z h0 t "[B" .byte (128 : Int32) (fun j => .int (F j))) (hF : own_ok F) (hPN : P + N ≤ 128) (h1 : 1 ≤ N) (O2 : Sta Z Z.heap "java/lang/String" "COMPACT_STRINGS" "Z" (.int G1)) (P5 : ¬ G1 = 0) (Ou : Sta Z Z.heap "sun/nio/cs/UTF_8" "INSTANCE" "Lsun/nio/cs/UTF_8;" (.ref u8)) (Oi : Sta Z Z.heap "sun/nio/cs/ISO_8859_1" "INSTANCE" "Lsun/nio/cs/ISO_8859_1;" (.ref iso)) (Oa : Sta Z Z.heap "sun/nio/cs/US_ASCII" "INSTANCE" "Lsun/nio/cs/US_ASCII;" (.ref cs)) (ne_cs_u8 : cs ≠ u8) (ne_cs_iso : cs ≠ iso) (X : Old Z n0 h0) (Ecs : Exa Z h0 cs "sun/nio/cs/US_ASCII") (O4 : Sta Z Z.heap "jdk/internal/util/Preconditions" "SIOOBE_FORMATTER" "Ljava/util/function/BiFunction;" G3) (rG3 : G3.isRef = true) :
    Met l Z (⟨"java/lang/String", "<init>", "([BIILjava/nio/charset/Charset;)V"⟩ : MethodName) jdk_42_method_10_code 5 none R_s_out n0 h0 #[(.ref x), (.ref t), (.int (Int32.ofNat P)), (.int (Int32.ofNat N)), (.ref cs)] (fun v h => v = none ∧ Keep h0 h [x] ∧ own_Str Z h x N (own_sub F P)) := by
  refine Met.intro (plainFor_of_name (by first | (simp [plainName, overriddenIn, x]; done) | decide +kernel)) (fun mM => (show entryFrame mM #[(.ref x), (.ref t), (.int (Int32.ofNat P)), (.int (Int32.ofNat N)), (.ref cs)] 5 = mkF mM 0 #[.val (.ref x), .val (.ref t), .val (.int (Int32.ofNat P)), .val (.int (Int32.ofNat N)), .val (.ref cs)] [] from by first | rfl | (simp [entryFrame, mkF, argsToLocals, Value.category]; done))) (fun w Y C => ?_)
  refine g_aloadN C d5_0 (pc' := 1) rfl rfl rfl ?_
  refine g_aload C d5_1 (pc' := 3) rfl rfl rfl ?_
  refine g_static (rm := R_s_nn) C (y := (⟨"java/util/Objects", "requireNonNull", "(Ljava/lang/Object;)Ljava/lang/Object;"⟩ : MethodName)) (hw _ (List.mem_of_getElem? (i := 41) rfl)) (hw _ (List.mem_of_getElem? (i := 42) rfl)) (hw _ (List.mem_of_getElem? (i := 43) rfl)) (hw _ (List.mem_of_getElem? (i := 44) rfl)) (by decide) d5_3 (pc' := 6) rfl (argsL := [(.ref cs)]) (rest := [(.ref x)]) (lenOf pd_6 rfl) rfl (W := 1) (Nat.le_of_eq rfl) rfl (fun hn9 => Met.back (rm := R_s_nn) (s_nn hw cs) hn9 C.hZ (hw _ (List.mem_of_getElem? (i := 44) rfl)) (hw _ (List.mem_of_getElem? (i := 43) rfl)) (by decide) (by decide)) (k' := 0) (n' := 0) rfl rfl (by decide) (by decide) ?_
  rintro _ _ ⟨rfl, rfl⟩
  show Go w l _ n0 _ h0 0 0 6 #[.val (.ref x), .val (.ref t), .val (.int (Int32.ofNat P)), .val (.int (Int32.ofNat N)), .val (.ref cs)] [(.ref cs), (.ref x)]
  refine g_cast C (hw _ (List.mem_of_getElem? (i := 45) rfl)) (Ins.of_exa Ecs (hw _ (List.mem_of_getElem? (i := 46) rfl))) d5_6 (pc' := 9) rfl ?_
  refine g_aloadN C d5_9 (pc' := 10) rfl rfl rfl ?_
  refine g_iloadN C d5_10 (pc' := 11) rfl rfl ?_
  refine g_iloadN C d5_11 (pc' := 12) rfl rfl ?_
  refine g_aloadN C d5_12 (pc' := 13) rfl rfl rfl ?_
  refine g_len C A d5_13 (pc' := 14) rfl ?_
  refine g_static (rm := R_s_cbo) C (y := (⟨"java/lang/String", "checkBoundsOffCount", "(III)I"⟩ : MethodName)) (hw _ (List.mem_of_getElem? (i := 47) rfl)) (hw _ (List.mem_of_getElem? (i := 48) rfl)) (hw _ (List.mem_of_getElem? (i := 35) rfl)) (hw _ (List.mem_of_getElem? (i := 49) rfl)) (by decide) d5_14 (pc' := 17) rfl (argsL := [(.int (Int32.ofNat P)), (.int (Int32.ofNat N)), (.int (128 : Int32))]) (rest := [(.ref t), (.ref cs), (.ref x)]) (lenOf pd_7 rfl) rfl (W := 3) (Nat.le_of_eq rfl) rfl (fun hn9 => Met.back (rm := R_s_cbo) (s_cbo hw P N G3 hPN O4 rG3 X) hn9 C.hZ (hw _ (List.mem_of_getElem? (i := 49) rfl)) (hw _ (List.mem_of_getElem? (i := 35) rfl)) (by decide) (by decide)) (k' := 0) (n' := 0) rfl rfl (by decide) (by decide) ?_
  rintro _ _ ⟨rfl, rfl⟩
  show Go w l _ n0 _ h0 0 0 17 #[.val (.ref x), .val (.ref t), .val (.int (Int32.ofNat P)), .val (.int (Int32.ofNat N)), .val (.ref cs)] [(.int (Int32.ofNat P)), (.ref t), (.ref cs), (.ref x)]
  refine g_iloadN C d5_17 (pc' := 18) rfl rfl ?_
  refine g_specialH (rm := R_s_in) (a := x) C (y := (⟨"java/lang/String", "<init>", "(Ljava/nio/charset/Charset;[BII)V"⟩ : MethodName)) rfl (hw _ (List.mem_of_getElem? (i := 55) rfl)) (hw _ (List.mem_of_getElem? (i := 56) rfl)) (hw _ (List.mem_of_getElem? (i := 58) rfl)) (by decide) d5_18 (pc' := 21) rfl (argsL := [(.ref cs), (.ref t), (.int (Int32.ofNat P)), (.int (Int32.ofNat N))]) (rest := []) (lenOf pd_8 rfl) rfl (W := 0) (Nat.le_of_eq rfl) rfl (fun hn9 => MetH.back (rm := R_s_in) (s_in hw x cs u8 iso t P N F G1 F1 F2 E gx A hF hPN h1 O2 P5 Ou Oi Oa ne_cs_u8 ne_cs_iso X) hn9 C.hZ (hw _ (List.mem_of_getElem? (i := 58) rfl)) (hw _ (List.mem_of_getElem? (i := 35) rfl)) (by decide) (by decide)) (k' := 1) (n' := 128) rfl rfl (by decide) (by decide) ?_
  rintro _ h9 ⟨rfl, q9⟩
  show Go w l _ n0 _ h9 1 128 21 #[.val (.ref x), .val (.ref t), .val (.int (Int32.ofNat P)), .val (.int (Int32.ofNat N)), .val (.ref cs)] []
  exact g_ret C rfl d5_21 ⟨rfl, q9⟩ (by decide) (by decide)
def R_s_out0 : Room := ({ frames := 2, cells := 2, slots := 4, locals := 34 } : Room)
set_option maxRecDepth 65536 in
set_option maxHeartbeats 40000000 in
theorem s_out0 {l : Launch} {Z : State} {a0 : Array Value} (hw : ∀ d ∈ tables_1, d.before a0 Z = true) {h0 : Heap} {n0 : Nat} (x cs t : Addr) (P : Nat) (F : Nat → Int32) (G3 : Value) (F1 : Fld Z h0 x "java/lang/String" "value" "[B" .null) (F2 : Fld Z h0 x "java/lang/String" "coder" "B" (.int 0)) (E : Exa Z h0 x "java/lang/String") (gx : n0 ≤ x) (A : Arf Z h0 t "[B" .byte (128 : Int32) (fun j => .int (F j))) (hP0 : P ≤ 128) (X : Old Z n0 h0) (Ecs : Exa Z h0 cs "sun/nio/cs/US_ASCII") (O4 : Sta Z Z.heap "jdk/internal/util/Preconditions" "SIOOBE_FORMATTER" "Ljava/util/function/BiFunction;" G3) (rG3 : G3.isRef = true) (hh : Jvm.Lit.constHeld Z "java/lang/String" 7) (hcw : Jvm.Lit.compactW.before a0 Z = true) :
    MetWI l Z (⟨"java/lang/String", "<init>", "([BIILjava/nio/charset/Charset;)V"⟩ : MethodName) jdk_42_method_10_code 5 none R_s_out0 n0 h0 #[(.ref x), (.ref t), (.int (Int32.ofNat P)), (.int (0 : Int32)), (.ref cs)] (fun v h => v = none ∧ Keep h0 h [x] ∧ own_Str Z h x 0 (own_sub F P)) := by
  refine MetWI.intro (plainFor_of_name (by first | (simp [plainName, overriddenIn, x]; done) | decide +kernel)) (fun mM => (show entryFrame mM #[(.ref x), (.ref t), (.int (Int32.ofNat P)), (.int (0 : Int32)), (.ref cs)] 5 = mkF mM 0 #[.val (.ref x), .val (.ref t), .val (.int (Int32.ofNat P)), .val (.int (0 : Int32)), .val (.ref cs)] [] from by first | rfl | (simp [entryFrame, mkF, argsToLocals, Value.category]; done))) (fun w Y C CW hH hI => ?_)
  refine g_aloadN C d5_0 (pc' := 1) rfl rfl rfl ?_
  refine g_aload C d5_1 (pc' := 3) rfl rfl rfl ?_
  refine g_static (rm := R_s_nn) C (y := (⟨"java/util/Objects", "requireNonNull", "(Ljava/lang/Object;)Ljava/lang/Object;"⟩ : MethodName)) (hw _ (List.mem_of_getElem? (i := 41) rfl)) (hw _ (List.mem_of_getElem? (i := 42) rfl)) (hw _ (List.mem_of_getElem? (i := 43) rfl)) (hw _ (List.mem_of_getElem? (i := 44) rfl)) (by decide) d5_3 (pc' := 6) rfl (argsL := [(.ref cs)]) (rest := [(.ref x)]) (lenOf pd_6 rfl) rfl (W := 1) (Nat.le_of_eq rfl) rfl (fun hn9 => Met.back (rm := R_s_nn) (s_nn hw cs) hn9 C.hZ (hw _ (List.mem_of_getElem? (i := 44) rfl)) (hw _ (List.mem_of_getElem? (i := 43) rfl)) (by decide) (by decide)) (k' := 0) (n' := 0) rfl rfl (by decide) (by decide) ?_
  rintro _ _ ⟨rfl, rfl⟩
  show Go w l _ n0 _ h0 0 0 6 #[.val (.ref x), .val (.ref t), .val (.int (Int32.ofNat P)), .val (.int (0 : Int32)), .val (.ref cs)] [(.ref cs), (.ref x)]
  refine g_cast C (hw _ (List.mem_of_getElem? (i := 45) rfl)) (Ins.of_exa Ecs (hw _ (List.mem_of_getElem? (i := 46) rfl))) d5_6 (pc' := 9) rfl ?_
  refine g_aloadN C d5_9 (pc' := 10) rfl rfl rfl ?_
  refine g_iloadN C d5_10 (pc' := 11) rfl rfl ?_
  refine g_iloadN C d5_11 (pc' := 12) rfl rfl ?_
  refine g_aloadN C d5_12 (pc' := 13) rfl rfl rfl ?_
  refine g_len C A d5_13 (pc' := 14) rfl ?_
  refine g_static (rm := R_s_cbo) C (y := (⟨"java/lang/String", "checkBoundsOffCount", "(III)I"⟩ : MethodName)) (hw _ (List.mem_of_getElem? (i := 47) rfl)) (hw _ (List.mem_of_getElem? (i := 48) rfl)) (hw _ (List.mem_of_getElem? (i := 35) rfl)) (hw _ (List.mem_of_getElem? (i := 49) rfl)) (by decide) d5_14 (pc' := 17) rfl (argsL := [(.int (Int32.ofNat P)), (.int (0 : Int32)), (.int (128 : Int32))]) (rest := [(.ref t), (.ref cs), (.ref x)]) (lenOf pd_7 rfl) rfl (W := 3) (Nat.le_of_eq rfl) rfl (fun hn9 => Met.back (rm := R_s_cbo) (s_cbo hw P 0 G3 (by omega) O4 rG3 X) hn9 C.hZ (hw _ (List.mem_of_getElem? (i := 49) rfl)) (hw _ (List.mem_of_getElem? (i := 35) rfl)) (by decide) (by decide)) (k' := 0) (n' := 0) rfl rfl (by decide) (by decide) ?_
  rintro _ _ ⟨rfl, rfl⟩
  show Go w l _ n0 _ h0 0 0 17 #[.val (.ref x), .val (.ref t), .val (.int (Int32.ofNat P)), .val (.int (0 : Int32)), .val (.ref cs)] [(.int (Int32.ofNat P)), (.ref t), (.ref cs), (.ref x)]
  refine g_iloadN C d5_17 (pc' := 18) rfl rfl ?_
  refine g_specialHS (rm := R_s_in0) (a := x) C CW (y := (⟨"java/lang/String", "<init>", "(Ljava/nio/charset/Charset;[BII)V"⟩ : MethodName)) rfl (hw _ (List.mem_of_getElem? (i := 55) rfl)) (hw _ (List.mem_of_getElem? (i := 56) rfl)) (hw _ (List.mem_of_getElem? (i := 58) rfl)) (hw _ (List.mem_of_getElem? (i := 35) rfl)) (by decide) d5_18 (pc' := 21) rfl (argsL := [(.ref cs), (.ref t), (.int (Int32.ofNat P)), (.int (0 : Int32))]) (rest := []) (lenOf pd_8 rfl) rfl (W := 0) (Nat.le_of_eq rfl) rfl (s_in0 hw x cs t P F F1 F2 E gx X hh hcw) hI (by decide) (by decide) (k' := 2) (n' := 4) rfl rfl (by decide) (by decide) ?_
  rintro w _ h9 C CW ⟨rfl, q9⟩
  show Go w l _ n0 _ h9 2 4 21 #[.val (.ref x), .val (.ref t), .val (.int (Int32.ofNat P)), .val (.int (0 : Int32)), .val (.ref cs)] []
  exact g_ret C rfl d5_21 ⟨rfl, q9⟩ (by decide) (by decide)
def R_s_lat : Room := ({ frames := 0, cells := 0, slots := 0, locals := 0 } : Room)
set_option maxRecDepth 65536 in
set_option maxHeartbeats 40000000 in
theorem s_lat {l : Launch} {Z : State} {a0 : Array Value} (hw : ∀ d ∈ tables_1, d.before a0 Z = true) {h0 : Heap} {n0 : Nat} (a t : Addr) (P N : Nat) (F : Nat → Int32) (G1 : Int32) (G3 : Value) (E : Exa Z h0 a "java/lang/String") (Fc : Fld Z h0 a "java/lang/String" "coder" "B" (.int 0)) (Fv : Fld Z h0 a "java/lang/String" "value" "[B" (.ref t)) (A : Arw Z h0 t .byte (Int32.ofNat N) (own_sub F P)) (hF : own_ok F) (hPN : P + N ≤ 128) (O2 : Sta Z Z.heap "java/lang/String" "COMPACT_STRINGS" "Z" (.int G1)) (P5 : ¬ G1 = 0) (X : Old Z n0 h0) (O4 : Sta Z Z.heap "jdk/internal/util/Preconditions" "SIOOBE_FORMATTER" "Ljava/util/function/BiFunction;" G3) (rG3 : G3.isRef = true) :
    Met l Z (⟨"java/lang/String", "isLatin1", "()Z"⟩ : MethodName) jdk_42_method_154_code 1 (some .boolean) R_s_lat n0 h0 #[(.ref a)] (fun r h => r = some (.int 1) ∧ h0 = h) := by
  refine Met.intro (plainFor_of_name (by first | (simp [plainName, overriddenIn, x]; done) | decide +kernel)) (fun mM => (show entryFrame mM #[(.ref a)] 1 = mkF mM 0 #[.val (.ref a)] [] from by first | rfl | (simp [entryFrame, mkF, argsToLocals, Value.category]; done))) (fun w Y C => ?_)
  refine g_getS (host := "") C (Or.inl (hw _ (List.mem_of_getElem? (i := 66) rfl))) Via.refl (O2.ext X.2) d18_0 (pc' := 3) rfl ?_
  refine g_if_eq C d18_3 (by decide) (pc' := 17) (by decide) (pcN := 6) rfl (fun q => absurd q P5) (fun _ => ?_)
  refine g_aloadN C d18_6 (pc' := 7) rfl rfl rfl ?_
  refine g_getF (host := "") C (Or.inl (hw _ (List.mem_of_getElem? (i := 94) rfl))) Via.refl Fc d18_7 (pc' := 10) rfl ?_
  refine g_if_ne C d18_10 (by decide) (pc' := 17) (by decide) (pcN := 13) rfl (fun q => absurd rfl q) (fun _ => ?_)
  refine g_iconst C (z := (1 : Int32)) d18_13 (pc' := 14) rfl rfl ?_
  refine g_goto C d18_14 (by decide) (pc' := 18) (by decide) ?_
  exact g_retN C (t := .boolean) rfl (by simp) d18_18 ⟨rfl, rfl⟩ (by decide) (by decide)
def R_s_cod : Room := ({ frames := 0, cells := 0, slots := 0, locals := 0 } : Room)
set_option maxRecDepth 65536 in
set_option maxHeartbeats 40000000 in
theorem s_cod {l : Launch} {Z : State} {a0 : Array Value} (hw : ∀ d ∈ tables_1, d.before a0 Z = true) {h0 : Heap} {n0 : Nat} (a t : Addr) (P N : Nat) (F : Nat → Int32) (G1 : Int32) (G3 : Value) (E : Exa Z h0 a "java/lang/String") (Fc : Fld Z h0 a "java/lang/String" "coder" "B" (.int 0)) (Fv : Fld Z h0 a "java/lang/String" "value" "[B" (.ref t)) (A : Arw Z h0 t .byte (Int32.ofNat N) (own_sub F P)) (hF : own_ok F) (hPN : P + N ≤ 128) (O2 : Sta Z Z.heap "java/lang/String" "COMPACT_STRINGS" "Z" (.int G1)) (P5 : ¬ G1 = 0) (X : Old Z n0 h0) (O4 : Sta Z Z.heap "jdk/internal/util/Preconditions" "SIOOBE_FORMATTER" "Ljava/util/function/BiFunction;" G3) (rG3 : G3.isRef = true) :
    Met l Z (⟨"java/lang/String", "coder", "()B"⟩ : MethodName) jdk_42_method_152_code 1 (some .byte) R_s_cod n0 h0 #[(.ref a)] (fun r h => r = some (.int 0) ∧ h0 = h) := by
  refine Met.intro (plainFor_of_name (by first | (simp [plainName, overriddenIn, x]; done) | decide +kernel)) (fun mM => (show entryFrame mM #[(.ref a)] 1 = mkF mM 0 #[.val (.ref a)] [] from by first | rfl | (simp [entryFrame, mkF, argsToLocals, Value.category]; done))) (fun w Y C => ?_)
  refine g_getS (host := "") C (Or.inl (hw _ (List.mem_of_getElem? (i := 66) rfl))) Via.refl (O2.ext X.2) d16_0 (pc' := 3) rfl ?_
  refine g_if_eq C d16_3 (by decide) (pc' := 13) (by decide) (pcN := 6) rfl (fun q => absurd q P5) (fun _ => ?_)
  refine g_aloadN C d16_6 (pc' := 7) rfl rfl rfl ?_
  refine g_getF (host := "") C (Or.inl (hw _ (List.mem_of_getElem? (i := 94) rfl))) Via.refl Fc d16_7 (pc' := 10) rfl ?_
  refine g_goto C d16_10 (by decide) (pc' := 14) (by decide) ?_
  exact g_retN C (t := .byte) rfl (by simp) d16_14 ⟨rfl, rfl⟩ (by decide) (by decide)
def R_s_len : Room := ({ frames := 1, cells := 0, slots := 0, locals := 13 } : Room)
set_option maxRecDepth 65536 in
set_option maxHeartbeats 40000000 in
theorem s_len {l : Launch} {Z : State} {a0 : Array Value} (hw : ∀ d ∈ tables_1, d.before a0 Z = true) {h0 : Heap} {n0 : Nat} (a t : Addr) (P N : Nat) (F : Nat → Int32) (G1 : Int32) (G3 : Value) (E : Exa Z h0 a "java/lang/String") (Fc : Fld Z h0 a "java/lang/String" "coder" "B" (.int 0)) (Fv : Fld Z h0 a "java/lang/String" "value" "[B" (.ref t)) (A : Arw Z h0 t .byte (Int32.ofNat N) (own_sub F P)) (hF : own_ok F) (hPN : P + N ≤ 128) (O2 : Sta Z Z.heap "java/lang/String" "COMPACT_STRINGS" "Z" (.int G1)) (P5 : ¬ G1 = 0) (X : Old Z n0 h0) (O4 : Sta Z Z.heap "jdk/internal/util/Preconditions" "SIOOBE_FORMATTER" "Ljava/util/function/BiFunction;" G3) (rG3 : G3.isRef = true) :
    Met l Z (⟨"java/lang/String", "length", "()I"⟩ : MethodName) jdk_42_method_54_code 1 (some .int) R_s_len n0 h0 #[(.ref a)] (fun r h => r = some (.int (Int32.ofNat N)) ∧ h0 = h) := by
  refine Met.intro (plainFor_of_name (by first | (simp [plainName, overriddenIn, x]; done) | decide +kernel)) (fun mM => (show entryFrame mM #[(.ref a)] 1 = mkF mM 0 #[.val (.ref a)] [] from by first | rfl | (simp [entryFrame, mkF, argsToLocals, Value.category]; done))) (fun w Y C => ?_)
  refine g_aloadN C d15_0 (pc' := 1) rfl rfl rfl ?_
  refine g_getF (host := "") C (Or.inl (hw _ (List.mem_of_getElem? (i := 92) rfl))) Via.refl Fv d15_1 (pc' := 4) rfl ?_
  refine g_lenW C A d15_4 (pc' := 5) rfl ?_
  refine g_aloadN C d15_5 (pc' := 6) rfl rfl rfl ?_
  refine g_virtual (rm := R_s_cod) (a := a) C (y := (⟨"java/lang/String", "coder", "()B"⟩ : MethodName)) (y' := (⟨"java/lang/String", "coder", "()B"⟩ : MethodName)) (hw _ (List.mem_of_getElem? (i := 101) rfl)) (hw _ (List.mem_of_getElem? (i := 102) rfl)) (g_nf C (hw _ (List.mem_of_getElem? (i := 104) rfl))) (hw _ (List.mem_of_getElem? (i := 104) rfl)) (hw _ (List.mem_of_getElem? (i := 103) rfl)) (by decide) E d15_6 (pc' := 9) rfl (argsL := []) (rest := [(.int (Int32.ofNat N))]) (lenOf pd_9 rfl) rfl (W := 1) (Nat.le_of_eq rfl) rfl (fun hn9 => Met.back (rm := R_s_cod) (s_cod hw a t P N F G1 G3 E Fc Fv A hF hPN O2 P5 X O4 rG3) hn9 C.hZ (hw _ (List.mem_of_getElem? (i := 105) rfl)) (hw _ (List.mem_of_getElem? (i := 35) rfl)) (by decide) (by decide)) (k' := 0) (n' := 0) rfl rfl (by decide) (by decide) ?_
  rintro _ _ ⟨rfl, rfl⟩
  show Go w l _ n0 _ h0 0 0 9 #[.val (.ref a)] [(.int (0 : Int32)), (.int (Int32.ofNat N))]
  refine g_ishr C d15_9 (pc' := 10) rfl ?_
  exact g_retI C rfl d15_10 ⟨by rw [own_sh0], rfl⟩ (by decide) (by decide)
def R_s_pci : Room := ({ frames := 0, cells := 0, slots := 0, locals := 0 } : Room)
set_option maxRecDepth 65536 in
set_option maxHeartbeats 40000000 in
theorem s_pci {l : Launch} {Z : State} {a0 : Array Value} (hw : ∀ d ∈ tables_1, d.before a0 Z = true) {h0 : Heap} {n0 : Nat} (N i : Nat) (G3 : Value) (hi : i < N) (hN : N ≤ 128) (rG3 : G3.isRef = true) :
    Met l Z (⟨"jdk/internal/util/Preconditions", "checkIndex", "(IILjava/util/function/BiFunction;)I"⟩ : MethodName) jdk_41_method_11_code 3 (some .int) R_s_pci n0 h0 #[(.int (Int32.ofNat i)), (.int (Int32.ofNat N)), G3] (fun r h => r = some (.int (Int32.ofNat i)) ∧ h0 = h) := by
  refine Met.intro (plainFor_of_name (by first | (simp [plainName, overriddenIn, x]; done) | decide +kernel)) (fun mM => (show entryFrame mM #[(.int (Int32.ofNat i)), (.int (Int32.ofNat N)), G3] 3 = mkF mM 0 #[.val (.int (Int32.ofNat i)), .val (.int (Int32.ofNat N)), .val G3] [] from by first | rfl | (simp [entryFrame, mkF, argsToLocals, Value.category]; done) | (rcases ref_cases rG3 with rfl | ⟨_, rfl⟩ <;> rfl))) (fun w Y C => ?_)
  refine g_iloadN C d21_0 (pc' := 1) rfl rfl ?_
  refine g_if_lt C d21_1 (by decide) (pc' := 9) (by decide) (pcN := 4) rfl (fun q => absurd q (n32_nn (by omega))) (fun _ => ?_)
  refine g_iloadN C d21_4 (pc' := 5) rfl rfl ?_
  refine g_iloadN C d21_5 (pc' := 6) rfl rfl ?_
  refine g_icmp_lt C d21_6 (by decide) (pc' := 16) (by decide) (pcN := 9) rfl (fun _ => ?_) (fun q => absurd (n32_lt hi (by omega)) q)
  refine g_iloadN C d21_16 (pc' := 17) rfl rfl ?_
  exact g_retI C rfl d21_17 ⟨rfl, rfl⟩ (by decide) (by decide)
def R_s_sci : Room := ({ frames := 1, cells := 0, slots := 0, locals := 14 } : Room)
set_option maxRecDepth 65536 in
set_option maxHeartbeats 40000000 in
theorem s_sci {l : Launch} {Z : State} {a0 : Array Value} (hw : ∀ d ∈ tables_1, d.before a0 Z = true) {h0 : Heap} {n0 : Nat} (N i : Nat) (G3 : Value) (hi : i < N) (hN : N ≤ 128) (O4 : Sta Z Z.heap "jdk/internal/util/Preconditions" "SIOOBE_FORMATTER" "Ljava/util/function/BiFunction;" G3) (rG3 : G3.isRef = true) (X : Old Z n0 h0) :
    Met l Z (⟨"java/lang/String", "checkIndex", "(II)V"⟩ : MethodName) jdk_42_method_155_code 2 none R_s_sci n0 h0 #[(.int (Int32.ofNat i)), (.int (Int32.ofNat N))] (fun r h => r = none ∧ h0 = h) := by
  refine Met.intro (plainFor_of_name (by first | (simp [plainName, overriddenIn, x]; done) | decide +kernel)) (fun mM => (show entryFrame mM #[(.int (Int32.ofNat i)), (.int (Int32.ofNat N))] 2 = mkF mM 0 #[.val (.int (Int32.ofNat i)), .val (.int (Int32.ofNat N))] [] from by first | rfl | (simp [entryFrame, mkF, argsToLocals, Value.category]; done))) (fun w Y C => ?_)
  refine g_iloadN C d20_0 (pc' := 1) rfl rfl ?_
  refine g_iloadN C d20_1 (pc' := 2) rfl rfl ?_
  refine g_getS (host := "") C (Or.inl (hw _ (List.mem_of_getElem? (i := 50) rfl))) Via.refl (O4.ext X.2) d20_2 (pc' := 5) rfl ?_
  refine g_static (rm := R_s_pci) C (y := (⟨"jdk/internal/util/Preconditions", "checkIndex", "(IILjava/util/function/BiFunction;)I"⟩ : MethodName)) (hw _ (List.mem_of_getElem? (i := 123) rfl)) (hw _ (List.mem_of_getElem? (i := 124) rfl)) (hw _ (List.mem_of_getElem? (i := 51) rfl)) (hw _ (List.mem_of_getElem? (i := 125) rfl)) (by decide) d20_5 (pc' := 8) rfl (argsL := [(.int (Int32.ofNat i)), (.int (Int32.ofNat N)), G3]) (rest := []) (lenOf pd_10 rfl) rfl (W := 0) (Nat.le_of_eq rfl) rfl (fun hn9 => Met.back (rm := R_s_pci) (s_pci hw N i G3 hi hN rG3) hn9 C.hZ (hw _ (List.mem_of_getElem? (i := 125) rfl)) (hw _ (List.mem_of_getElem? (i := 51) rfl)) (by decide) (by decide)) (k' := 0) (n' := 0) rfl rfl (by decide) (by decide) ?_
  rintro _ _ ⟨rfl, rfl⟩
  show Go w l _ n0 _ h0 0 0 8 #[.val (.int (Int32.ofNat i)), .val (.int (Int32.ofNat N))] [(.int (Int32.ofNat i))]
  refine g_pop C d20_8 (pc' := 9) rfl rfl ?_
  exact g_ret C rfl d20_9 ⟨rfl, rfl⟩ (by decide) (by decide)
def R_s_lch : Room := ({ frames := 2, cells := 0, slots := 0, locals := 27 } : Room)
set_option maxRecDepth 65536 in
set_option maxHeartbeats 40000000 in
theorem s_lch {l : Launch} {Z : State} {a0 : Array Value} (hw : ∀ d ∈ tables_1, d.before a0 Z = true) {h0 : Heap} {n0 : Nat} (t : Addr) (P N i : Nat) (F : Nat → Int32) (G3 : Value) (A : Arw Z h0 t .byte (Int32.ofNat N) (own_sub F P)) (hF : own_ok F) (hPN : P + N ≤ 128) (hi : i < N) (X : Old Z n0 h0) (O4 : Sta Z Z.heap "jdk/internal/util/Preconditions" "SIOOBE_FORMATTER" "Ljava/util/function/BiFunction;" G3) (rG3 : G3.isRef = true) :
    Met l Z (⟨"java/lang/StringLatin1", "charAt", "([BI)C"⟩ : MethodName) jdk_43_method_2_code 2 (some .char) R_s_lch n0 h0 #[(.ref t), (.int (Int32.ofNat i))] (fun r h => r = some (.int (F (P + i))) ∧ h0 = h) := by
  refine Met.intro (plainFor_of_name (by first | (simp [plainName, overriddenIn, x]; done) | decide +kernel)) (fun mM => (show entryFrame mM #[(.ref t), (.int (Int32.ofNat i))] 2 = mkF mM 0 #[.val (.ref t), .val (.int (Int32.ofNat i))] [] from by first | rfl | (simp [entryFrame, mkF, argsToLocals, Value.category]; done))) (fun w Y C => ?_)
  refine g_iloadN C d19_0 (pc' := 1) rfl rfl ?_
  refine g_aloadN C d19_1 (pc' := 2) rfl rfl rfl ?_
  refine g_lenW C A d19_2 (pc' := 3) rfl ?_
  refine g_static (rm := R_s_sci) C (y := (⟨"java/lang/String", "checkIndex", "(II)V"⟩ : MethodName)) (hw _ (List.mem_of_getElem? (i := 120) rfl)) (hw _ (List.mem_of_getElem? (i := 121) rfl)) (hw _ (List.mem_of_getElem? (i := 35) rfl)) (hw _ (List.mem_of_getElem? (i := 122) rfl)) (by decide) d19_3 (pc' := 6) rfl (argsL := [(.int (Int32.ofNat i)), (.int (Int32.ofNat N))]) (rest := []) (lenOf pd_1 rfl) rfl (W := 0) (Nat.le_of_eq rfl) rfl (fun hn9 => Met.back (rm := R_s_sci) (s_sci hw N i G3 hi (by omega) O4 rG3 X) hn9 C.hZ (hw _ (List.mem_of_getElem? (i := 122) rfl)) (hw _ (List.mem_of_getElem? (i := 35) rfl)) (by decide) (by decide)) (k' := 0) (n' := 0) rfl rfl (by decide) (by decide) ?_
  rintro _ _ ⟨rfl, rfl⟩
  show Go w l _ n0 _ h0 0 0 6 #[.val (.ref t), .val (.int (Int32.ofNat i))] []
  refine g_aloadN C d19_6 (pc' := 7) rfl rfl rfl ?_
  refine g_iloadN C d19_7 (pc' := 8) rfl rfl ?_
  refine g_baloadW C (v := (.int (F (P + i)))) A (n32_nn (by omega)) (n32_lt (by omega) (by omega)) (by show Value.int (F (P + _)) = _; rw [n32_nat (by omega)]) d19_8 (pc' := 9) rfl ?_
  refine g_sipush C (z := (255 : Int32)) d19_9 (pc' := 12) rfl rfl ?_
  refine g_iand C d19_12 (pc' := 13) rfl ?_
  refine g_i2c C d19_13 (pc' := 14) rfl ?_
  exact g_retN C (t := .char) rfl (by simp) d19_14 ⟨by rw [own_rtL (hF (P + i) (by omega))], rfl⟩ (by decide) (by decide)
theorem own_ncc {x : Int32} (h : 0 ≤ x.toInt ∧ x.toInt < 128) : nar .char x = x := own_nc h
def R_s_chr : Room := ({ frames := 3, cells := 0, slots := 0, locals := 40 } : Room)
set_option maxRecDepth 65536 in
set_option maxHeartbeats 40000000 in
theorem s_chr {l : Launch} {Z : State} {a0 : Array Value} (hw : ∀ d ∈ tables_1, d.before a0 Z = true) {h0 : Heap} {n0 : Nat} (a t : Addr) (P N : Nat) (F : Nat → Int32) (G1 : Int32) (G3 : Value) (i : Nat) (E : Exa Z h0 a "java/lang/String") (Fc : Fld Z h0 a "java/lang/String" "coder" "B" (.int 0)) (Fv : Fld Z h0 a "java/lang/String" "value" "[B" (.ref t)) (A : Arw Z h0 t .byte (Int32.ofNat N) (own_sub F P)) (hF : own_ok F) (hPN : P + N ≤ 128) (O2 : Sta Z Z.heap "java/lang/String" "COMPACT_STRINGS" "Z" (.int G1)) (P5 : ¬ G1 = 0) (X : Old Z n0 h0) (O4 : Sta Z Z.heap "jdk/internal/util/Preconditions" "SIOOBE_FORMATTER" "Ljava/util/function/BiFunction;" G3) (rG3 : G3.isRef = true) (hi : i < N) :
    Met l Z (⟨"java/lang/String", "charAt", "(I)C"⟩ : MethodName) jdk_42_method_56_code 2 (some .char) R_s_chr n0 h0 #[(.ref a), (.int (Int32.ofNat i))] (fun r h => r = some (.int (F (P + i))) ∧ h0 = h) := by
  refine Met.intro (plainFor_of_name (by first | (simp [plainName, overriddenIn, x]; done) | decide +kernel)) (fun mM => (show entryFrame mM #[(.ref a), (.int (Int32.ofNat i))] 2 = mkF mM 0 #[.val (.ref a), .val (.int (Int32.ofNat i))] [] from by first | rfl | (simp [entryFrame, mkF, argsToLocals, Value.category]; done))) (fun w Y C => ?_)
  refine g_aloadN C d17_0 (pc' := 1) rfl rfl rfl ?_
  refine g_virtual (rm := R_s_lat) (a := a) C (y := (⟨"java/lang/String", "isLatin1", "()Z"⟩ : MethodName)) (y' := (⟨"java/lang/String", "isLatin1", "()Z"⟩ : MethodName)) (hw _ (List.mem_of_getElem? (i := 111) rfl)) (hw _ (List.mem_of_getElem? (i := 112) rfl)) (g_nf C (hw _ (List.mem_of_getElem? (i := 114) rfl))) (hw _ (List.mem_of_getElem? (i := 114) rfl)) (hw _ (List.mem_of_getElem? (i := 113) rfl)) (by decide) E d17_1 (pc' := 4) rfl (argsL := []) (rest := []) (lenOf pd_11 rfl) rfl (W := 0) (Nat.le_of_eq rfl) rfl (fun hn9 => Met.back (rm := R_s_lat) (s_lat hw a t P N F G1 G3 E Fc Fv A hF hPN O2 P5 X O4 rG3) hn9 C.hZ (hw _ (List.mem_of_getElem? (i := 115) rfl)) (hw _ (List.mem_of_getElem? (i := 35) rfl)) (by decide) (by decide)) (k' := 0) (n' := 0) rfl rfl (by decide) (by decide) ?_
  rintro _ _ ⟨rfl, rfl⟩
  show Go w l _ n0 _ h0 0 0 4 #[.val (.ref a), .val (.int (Int32.ofNat i))] [(.int (1 : Int32))]
  refine g_if_eq C d17_4 (by decide) (pc' := 16) (by decide) (pcN := 7) rfl (fun q => absurd q (by decide)) (fun _ => ?_)
  refine g_aloadN C d17_7 (pc' := 8) rfl rfl rfl ?_
  refine g_getF (host := "") C (Or.inl (hw _ (List.mem_of_getElem? (i := 92) rfl))) Via.refl Fv d17_8 (pc' := 11) rfl ?_
  refine g_iloadN C d17_11 (pc' := 12) rfl rfl ?_
  refine g_static (rm := R_s_lch) C (y := (⟨"java/lang/StringLatin1", "charAt", "([BI)C"⟩ : MethodName)) (hw _ (List.mem_of_getElem? (i := 116) rfl)) (hw _ (List.mem_of_getElem? (i := 117) rfl)) (hw _ (List.mem_of_getElem? (i := 118) rfl)) (hw _ (List.mem_of_getElem? (i := 119) rfl)) (by decide) d17_12 (pc' := 15) rfl (argsL := [(.ref t), (.int (Int32.ofNat i))]) (rest := []) (lenOf pd_12 rfl) rfl (W := 0) (Nat.le_of_eq rfl) rfl (fun hn9 => Met.back (rm := R_s_lch) (s_lch hw t P N i F G3 A hF hPN hi X O4 rG3) hn9 C.hZ (hw _ (List.mem_of_getElem? (i := 119) rfl)) (hw _ (List.mem_of_getElem? (i := 118) rfl)) (by decide) (by decide)) (k' := 0) (n' := 0) rfl rfl (by decide) (by decide) ?_
  rintro _ _ ⟨rfl, rfl⟩
  show Go w l _ n0 _ h0 0 0 15 #[.val (.ref a), .val (.int (Int32.ofNat i))] [(.int (F (P + i)))]
  exact g_retN C (t := .char) rfl (by simp) d17_15 ⟨by rw [own_ncc (hF (P + i) (by omega))], rfl⟩ (by decide) (by decide)
def R_s_rec : Room := ({ frames := 1, cells := 0, slots := 0, locals := 12 } : Room)
set_option maxRecDepth 65536 in
set_option maxHeartbeats 40000000 in
theorem s_rec {l : Launch} {Z : State} {a0 : Array Value} (hw : ∀ d ∈ tables_1, d.before a0 Z = true) {h0 : Heap} {n0 : Nat} (a : Addr)  :
    Met l Z (⟨"java/lang/Record", "<init>", "()V"⟩ : MethodName) jdk_30_method_1_code 1 none R_s_rec n0 h0 #[(.ref a)] (fun r h => r = none ∧ h0 = h) := by
  refine Met.intro (plainFor_of_name (by first | (simp [plainName, overriddenIn, x]; done) | decide +kernel)) (fun mM => (show entryFrame mM #[(.ref a)] 1 = mkF mM 0 #[.val (.ref a)] [] from by first | rfl | (simp [entryFrame, mkF, argsToLocals, Value.category]; done))) (fun w Y C => ?_)
  refine g_aloadN C d2_0 (pc' := 1) rfl rfl rfl ?_
  refine g_initO C (W := 0) (hw _ (List.mem_of_getElem? (i := 19) rfl)) (hw _ (List.mem_of_getElem? (i := 20) rfl)) (hw _ (List.mem_of_getElem? (i := 21) rfl)) d2_1 (pc' := 4) rfl rfl (by decide) (Nat.le_of_eq rfl) (by decide) ?_
  exact g_ret C rfl d2_4 ⟨rfl, rfl⟩ (by decide) (by decide)
def R_s_ff : Room := ({ frames := 2, cells := 0, slots := 0, locals := 24 } : Room)
set_option maxRecDepth 65536 in
set_option maxHeartbeats 40000000 in
theorem s_ff {l : Launch} {Z : State} {a0 : Array Value} (hw : ∀ d ∈ tables_1, d.before a0 Z = true) {h0 : Heap} {n0 : Nat} (a kd : Addr) (M : Int32) (F1 : Fld Z h0 a "com/example/longhaul/longhaul/Iso8583AsciiCodec$FieldFormat" "kind" "Lcom/example/longhaul/longhaul/Iso8583AsciiCodec$LengthKind;" .null) (F2 : Fld Z h0 a "com/example/longhaul/longhaul/Iso8583AsciiCodec$FieldFormat" "maxLength" "I" (.int 0)) (E : Exa Z h0 a "com/example/longhaul/longhaul/Iso8583AsciiCodec$FieldFormat") (ga : n0 ≤ a) :
    Met l Z (⟨"com/example/longhaul/longhaul/Iso8583AsciiCodec$FieldFormat", "<init>", "(Lcom/example/longhaul/longhaul/Iso8583AsciiCodec$LengthKind;I)V"⟩ : MethodName) prog_15_method_1_code 3 none R_s_ff n0 h0 #[(.ref a), (.ref kd), (.int M)] (fun v h => v = none ∧ Keep h0 h [a] ∧ Exa Z h a "com/example/longhaul/longhaul/Iso8583AsciiCodec$FieldFormat" ∧ Fld Z h a "com/example/longhaul/longhaul/Iso8583AsciiCodec$FieldFormat" "kind" "Lcom/example/longhaul/longhaul/Iso8583AsciiCodec$LengthKind;" (.ref kd) ∧ Fld Z h a "com/example/longhaul/longhaul/Iso8583AsciiCodec$FieldFormat" "maxLength" "I" (.int M)) := by
  refine Met.intro (plainFor_of_name (by first | (simp [plainName, overriddenIn, x]; done) | decide +kernel)) (fun mM => (show entryFrame mM #[(.ref a), (.ref kd), (.int M)] 3 = mkF mM 0 #[.val (.ref a), .val (.ref kd), .val (.int M)] [] from by first | rfl | (simp [entryFrame, mkF, argsToLocals, Value.category]; done))) (fun w Y C => ?_)
  have K := Keep.refl h0 [a]
  refine g_aloadN C d1_0 (pc' := 1) rfl rfl rfl ?_
  refine g_special (rm := R_s_rec) (a := a) C (y := (⟨"java/lang/Record", "<init>", "()V"⟩ : MethodName)) rfl (hw _ (List.mem_of_getElem? (i := 14) rfl)) (hw _ (List.mem_of_getElem? (i := 15) rfl)) (hw _ (List.mem_of_getElem? (i := 18) rfl)) (by decide) d1_1 (pc' := 4) rfl (argsL := []) (rest := []) (lenOf pd_13 rfl) rfl (W := 0) (Nat.le_of_eq rfl) rfl (fun hn9 => Met.back (rm := R_s_rec) (s_rec hw a) hn9 C.hZ (hw _ (List.mem_of_getElem? (i := 18) rfl)) (hw _ (List.mem_of_getElem? (i := 17) rfl)) (by decide) (by decide)) (k' := 0) (n' := 0) rfl rfl (by decide) (by decide) ?_
  rintro _ _ ⟨rfl, rfl⟩
  show Go w l _ n0 _ h0 0 0 4 #[.val (.ref a), .val (.ref kd), .val (.int M)] []
  refine g_aloadN C d1_4 (pc' := 5) rfl rfl rfl ?_
  refine g_aloadN C d1_5 (pc' := 6) rfl rfl rfl ?_
  refine g_putF (host := "") C (Or.inl (hw _ (List.mem_of_getElem? (i := 22) rfl))) Via.refl F1 E (Or.inr ⟨(hw _ (List.mem_of_getElem? (i := 23) rfl)), rfl, rfl⟩) (hw _ (List.mem_of_getElem? (i := 9) rfl)) (ty := (.object "com/example/longhaul/longhaul/Iso8583AsciiCodec$LengthKind")) (by decide) rfl rfl d1_6 (pc' := 9) rfl ga (fun h56 W57 => ?_)
  have F1 := F1.same W57
  have F2 := F2.other W57 (Or.inr (slot_ne (Or.inr (hw _ (List.mem_of_getElem? (i := 25) rfl)) : Laid Z a0 "com/example/longhaul/longhaul/Iso8583AsciiCodec$FieldFormat" "com/example/longhaul/longhaul/Iso8583AsciiCodec$FieldFormat" "maxLength" "I") (Or.inr (hw _ (List.mem_of_getElem? (i := 23) rfl)) : Laid Z a0 "com/example/longhaul/longhaul/Iso8583AsciiCodec$FieldFormat" "com/example/longhaul/longhaul/Iso8583AsciiCodec$FieldFormat" "kind" "Lcom/example/longhaul/longhaul/Iso8583AsciiCodec$LengthKind;") (by decide) (t := .int) (t' := (.object "com/example/longhaul/longhaul/Iso8583AsciiCodec$LengthKind")) (by decide) (by decide)))
  have E := E.wr W57
  have K := K.wr W57 (Or.inl (by simp))
  refine g_aloadN C d1_9 (pc' := 10) rfl rfl rfl ?_
  refine g_iloadN C d1_10 (pc' := 11) rfl rfl ?_
  refine g_putF (host := "") C (Or.inl (hw _ (List.mem_of_getElem? (i := 24) rfl))) Via.refl F2 E (Or.inr ⟨(hw _ (List.mem_of_getElem? (i := 25) rfl)), rfl, rfl⟩) (hw _ (List.mem_of_getElem? (i := 9) rfl)) (ty := .int) (by decide) rfl rfl d1_11 (pc' := 14) rfl ga (fun h58 W59 => ?_)
  have F2 := F2.same W59
  have F1 := F1.other W59 (Or.inr (slot_ne (Or.inr (hw _ (List.mem_of_getElem? (i := 23) rfl)) : Laid Z a0 "com/example/longhaul/longhaul/Iso8583AsciiCodec$FieldFormat" "com/example/longhaul/longhaul/Iso8583AsciiCodec$FieldFormat" "kind" "Lcom/example/longhaul/longhaul/Iso8583AsciiCodec$LengthKind;") (Or.inr (hw _ (List.mem_of_getElem? (i := 25) rfl)) : Laid Z a0 "com/example/longhaul/longhaul/Iso8583AsciiCodec$FieldFormat" "com/example/longhaul/longhaul/Iso8583AsciiCodec$FieldFormat" "maxLength" "I") (by decide) (t := (.object "com/example/longhaul/longhaul/Iso8583AsciiCodec$LengthKind")) (t' := .int) (by decide) (by decide)))
  have E := E.wr W59
  have K := K.wr W59 (Or.inl (by simp))
  exact g_ret C rfl d1_14 ⟨rfl, K, E, F1, F2⟩ (by decide) (by decide)
def R_rd0 : Room := ({ frames := 5, cells := 2, slots := 132, locals := 90 } : Room)
set_option maxRecDepth 65536 in
set_option maxHeartbeats 40000000 in
theorem rd0 {l : Launch} {Z : State} {a0 : Array Value} (hw : ∀ d ∈ tables_1, d.before a0 Z = true) {h0 : Heap} {n0 : Nat} (a kd t vs cs u8 iso : Addr) (s N : Nat) (F : Nat → Int32) (M idx e G1 : Int32) (G3 : Value) (Fk : Fld Z h0 a "com/example/longhaul/longhaul/Iso8583AsciiCodec$FieldFormat" "kind" "Lcom/example/longhaul/longhaul/Iso8583AsciiCodec$LengthKind;" (.ref kd)) (Fm : Fld Z h0 a "com/example/longhaul/longhaul/Iso8583AsciiCodec$FieldFormat" "maxLength" "I" (.int (Int32.ofNat N))) (Fd : Fld Z h0 kd "com/example/longhaul/longhaul/Iso8583AsciiCodec$LengthKind" "digits" "I" (.int 0)) (A : Arf Z h0 t "[B" .byte (128 : Int32) (fun j => .int (F j))) (Vs : Arf Z h0 vs "[Ljava/lang/String;" (.object "java/lang/String") (4 : Int32) (fun _ => .null)) (V : OvrN Z "[Ljava/lang/String;" "java/lang/String") (gv : n0 ≤ vs) (ne_t_vs : t ≠ vs) (hi0 : ¬ idx < 0) (hi4 : idx < 4) (hF : own_ok F) (hPN : s + N ≤ 128) (O2 : Sta Z Z.heap "java/lang/String" "COMPACT_STRINGS" "Z" (.int G1)) (P5 : ¬ G1 = 0) (Ou : Sta Z Z.heap "sun/nio/cs/UTF_8" "INSTANCE" "Lsun/nio/cs/UTF_8;" (.ref u8)) (Oi : Sta Z Z.heap "sun/nio/cs/ISO_8859_1" "INSTANCE" "Lsun/nio/cs/ISO_8859_1;" (.ref iso)) (Oa : Sta Z Z.heap "sun/nio/cs/US_ASCII" "INSTANCE" "Lsun/nio/cs/US_ASCII;" (.ref cs)) (ne_cs_u8 : cs ≠ u8) (ne_cs_iso : cs ≠ iso) (X : Old Z n0 h0) (Ecs : Exa Z h0 cs "sun/nio/cs/US_ASCII") (O4 : Sta Z Z.heap "jdk/internal/util/Preconditions" "SIOOBE_FORMATTER" "Ljava/util/function/BiFunction;" G3) (rG3 : G3.isRef = true) (Os : Sta Z Z.heap "java/nio/charset/StandardCharsets" "US_ASCII" "Ljava/nio/charset/Charset;" (.ref cs)) (h1 : 1 ≤ N) :
    Met l Z (⟨"com/example/longhaul/longhaul/Iso8583AsciiCodec$FieldFormat", "read", "(I[BI[Ljava/lang/String;I)I"⟩ : MethodName) prog_15_method_4_code 9 (some .int) R_rd0 n0 h0 #[(.ref a), (.int e), (.ref t), (.int (Int32.ofNat s)), (.ref vs), (.int idx)] (fun r h => ∃ x : Addr, r = some (.int (Int32.ofNat (s + N))) ∧ Old Z n0 h ∧ Arf Z h t "[B" .byte (128 : Int32) (fun j => .int (F j)) ∧ Arf Z h vs "[Ljava/lang/String;" (.object "java/lang/String") (4 : Int32) (upd (fun _ => .null) idx.toNatClampNeg (.ref x)) ∧ own_Str Z h x N (own_sub F s)) := by
  refine Met.intro (plainFor_of_name (by first | (simp [plainName, overriddenIn, x]; done) | decide +kernel)) (fun mM => (show entryFrame mM #[(.ref a), (.int e), (.ref t), (.int (Int32.ofNat s)), (.ref vs), (.int idx)] 9 = mkF mM 0 #[.val (.ref a), .val (.int e), .val (.ref t), .val (.int (Int32.ofNat s)), .val (.ref vs), .val (.int idx), .unset, .unset, .unset] [] from by first | rfl | (simp [entryFrame, mkF, argsToLocals, Value.category]; done))) (fun w Y C => ?_)
  refine g_iloadN C d4_0 (pc' := 1) rfl rfl ?_
  refine g_istore C d4_1 (pc' := 3) rfl (Ls' := #[.val (.ref a), .val (.int e), .val (.ref t), .val (.int (Int32.ofNat s)), .val (.ref vs), .val (.int idx), .val (.int (Int32.ofNat s)), .unset, .unset]) rfl ?_
  refine g_aloadN C d4_3 (pc' := 4) rfl rfl rfl ?_
  refine g_getF (host := "") C (Or.inl (hw _ (List.mem_of_getElem? (i := 24) rfl))) Via.refl Fm d4_4 (pc' := 7) rfl ?_
  refine g_istore C d4_7 (pc' := 9) rfl (Ls' := #[.val (.ref a), .val (.int e), .val (.ref t), .val (.int (Int32.ofNat s)), .val (.ref vs), .val (.int idx), .val (.int (Int32.ofNat s)), .val (.int (Int32.ofNat N)), .unset]) rfl ?_
  refine g_aloadN C d4_9 (pc' := 10) rfl rfl rfl ?_
  refine g_getF (host := "") C (Or.inl (hw _ (List.mem_of_getElem? (i := 22) rfl))) Via.refl Fk d4_10 (pc' := 13) rfl ?_
  refine g_getF C (Or.inr (hw _ (List.mem_of_getElem? (i := 31) rfl))) Via.refl Fd d4_13 (pc' := 16) rfl ?_
  refine g_if_le C d4_16 (by decide) (pc' := 173) (by decide) (pcN := 19) rfl (fun _ => ?_) (fun q => absurd q (by decide))
  refine g_aloadN C d4_173 (pc' := 174) rfl rfl rfl ?_
  refine g_len C A d4_174 (pc' := 175) rfl ?_
  refine g_iload C d4_175 (pc' := 177) rfl rfl ?_
  refine g_isub C d4_177 (pc' := 178) rfl ?_
  rw [own_sub2 (by omega)]
  show Go w l _ n0 _ h0 0 0 178 #[.val (.ref a), .val (.int e), .val (.ref t), .val (.int (Int32.ofNat s)), .val (.ref vs), .val (.int idx), .val (.int (Int32.ofNat s)), .val (.int (Int32.ofNat N)), .unset] [(.int (Int32.ofNat (128 - s)))]
  refine g_iload C d4_178 (pc' := 180) rfl rfl ?_
  refine g_icmp_ge C d4_180 (by decide) (pc' := 204) (by decide) (pcN := 183) rfl (fun _ => ?_) (fun q => absurd q (n32_ge (by omega) (by omega)))
  refine g_aload C d4_204 (pc' := 206) rfl rfl rfl ?_
  refine g_iload C d4_206 (pc' := 208) rfl rfl ?_
  refine g_new C (hw _ (List.mem_of_getElem? (i := 33) rfl)) (hw _ (List.mem_of_getElem? (i := 34) rfl)) (hw _ (List.mem_of_getElem? (i := 35) rfl)) d4_208 (pc' := 211) rfl (k' := 1) (n' := 4) rfl rfl (by decide) (by decide) ?_
  intro h60 b60 E60 fb60 gb60 A60 D60
  have ne_a_b60 : a ≠ b60 := Nat.ne_of_lt (Nat.lt_of_lt_of_le Fk.lt fb60)
  have ne_kd_b60 : kd ≠ b60 := Nat.ne_of_lt (Nat.lt_of_lt_of_le Fd.lt fb60)
  have ne_t_b60 : t ≠ b60 := Nat.ne_of_lt (Nat.lt_of_lt_of_le A.lt fb60)
  have ne_vs_b60 : vs ≠ b60 := Nat.ne_of_lt (Nat.lt_of_lt_of_le Vs.lt fb60)
  have ne_cs_b60 : cs ≠ b60 := Nat.ne_of_lt (Nat.lt_of_lt_of_le Ecs.lt fb60)
  have Fk := Fk.ext E60
  have Fm := Fm.ext E60
  have Fd := Fd.ext E60
  have A := A.ext E60
  have Vs := Vs.ext E60
  have X := X.ext E60
  have Ecs := Ecs.ext E60
  have F60_value : Fld Z h60 b60 "java/lang/String" "value" "[B" .null := D60 (Or.inr (hw _ (List.mem_of_getElem? (i := 93) rfl))) (ty := (.array .byte)) (by decide)
  have F60_coder : Fld Z h60 b60 "java/lang/String" "coder" "B" (.int (0 : Int32)) := D60 (Or.inr (hw _ (List.mem_of_getElem? (i := 95) rfl))) (ty := .byte) (by decide)
  refine g_dup C d4_211 (pc' := 212) rfl rfl ?_
  refine g_aloadN C d4_212 (pc' := 213) rfl rfl rfl ?_
  refine g_iload C d4_213 (pc' := 215) rfl rfl ?_
  refine g_iload C d4_215 (pc' := 217) rfl rfl ?_
  refine g_getS (host := "") C (Or.inl (hw _ (List.mem_of_getElem? (i := 36) rfl))) Via.refl (Os.ext X.2) d4_217 (pc' := 220) rfl ?_
  refine g_special (rm := R_s_out) (a := b60) C (y := (⟨"java/lang/String", "<init>", "([BIILjava/nio/charset/Charset;)V"⟩ : MethodName)) rfl (hw _ (List.mem_of_getElem? (i := 38) rfl)) (hw _ (List.mem_of_getElem? (i := 39) rfl)) (hw _ (List.mem_of_getElem? (i := 40) rfl)) (by decide) d4_220 (pc' := 223) rfl (argsL := [(.ref t), (.int (Int32.ofNat s)), (.int (Int32.ofNat N)), (.ref cs)]) (rest := [(.ref b60), (.int idx), (.ref vs)]) (lenOf pd_14 rfl) rfl (W := 3) (Nat.le_of_eq rfl) rfl (fun hn9 => Met.back (rm := R_s_out) (s_out hw b60 cs u8 iso t s N F G1 G3 F60_value F60_coder A60 gb60 A hF hPN h1 O2 P5 Ou Oi Oa ne_cs_u8 ne_cs_iso X Ecs O4 rG3) hn9 C.hZ (hw _ (List.mem_of_getElem? (i := 40) rfl)) (hw _ (List.mem_of_getElem? (i := 35) rfl)) (by decide) (by decide)) (k' := 2) (n' := 132) rfl rfl (by decide) (by decide) ?_
  rintro _ h61 ⟨rfl, Kx, Ex, t2, Fc, Fv, Bx⟩
  have Fk := Fk.keep Kx (ninS ne_a_b60 nin0)
  have Fm := Fm.keep Kx (ninS ne_a_b60 nin0)
  have Fd := Fd.keep Kx (ninS ne_kd_b60 nin0)
  have A := A.keep Kx (ninS ne_t_b60 nin0)
  have Vs := Vs.keep Kx (ninS ne_vs_b60 nin0)
  have X := X.keep Kx (allS gb60 all0)
  have Ecs := Ecs.keep Kx
  have ne_t2_vs : t2 ≠ vs := own_neA Bx Vs
  show Go w l _ n0 _ h61 2 132 223 #[.val (.ref a), .val (.int e), .val (.ref t), .val (.int (Int32.ofNat s)), .val (.ref vs), .val (.int idx), .val (.int (Int32.ofNat s)), .val (.int (Int32.ofNat N)), .unset] [(.ref b60), (.int idx), (.ref vs)]
  refine g_aastore C V Vs hi0 hi4 (Ins.self Ex) d4_223 (pc' := 224) rfl gv (fun h62 W63 Vs' => ?_)
  have A := A.other W63 ne_t_vs
  have X := X.wr W63 gv
  have Ecs := Ecs.wr W63
  have Ex := Ex.wr W63
  have Fc := Fc.other W63 (Or.inl (Ne.symm ne_vs_b60))
  have Fv := Fv.other W63 (Or.inl (Ne.symm ne_vs_b60))
  have Bx := Bx.other W63 ne_t2_vs
  have Vs : Arf Z h62 vs "[Ljava/lang/String;" (.object "java/lang/String") (4 : Int32) (upd (fun _ => .null) idx.toNatClampNeg (.ref b60)) := Vs'
  refine g_iload C d4_224 (pc' := 226) rfl rfl ?_
  refine g_iload C d4_226 (pc' := 228) rfl rfl ?_
  refine g_iadd C d4_228 (pc' := 229) rfl ?_
  exact g_retI C rfl d4_229 ⟨b60, by rw [← Int32.ofNat_add], X, A, Vs, Ex, t2, Fc, Fv, Bx⟩ (by decide) (by decide)
def R_rd0z : Room := ({ frames := 3, cells := 3, slots := 8, locals := 53 } : Room)
set_option maxRecDepth 65536 in
set_option maxHeartbeats 40000000 in
theorem rd0z {l : Launch} {Z : State} {a0 : Array Value} (hw : ∀ d ∈ tables_1, d.before a0 Z = true) {h0 : Heap} {n0 : Nat} (a kd t vs cs u8 iso : Addr) (s N : Nat) (F : Nat → Int32) (M idx e G1 : Int32) (G3 : Value) (Fk : Fld Z h0 a "com/example/longhaul/longhaul/Iso8583AsciiCodec$FieldFormat" "kind" "Lcom/example/longhaul/longhaul/Iso8583AsciiCodec$LengthKind;" (.ref kd)) (Fm : Fld Z h0 a "com/example/longhaul/longhaul/Iso8583AsciiCodec$FieldFormat" "maxLength" "I" (.int (Int32.ofNat 0))) (Fd : Fld Z h0 kd "com/example/longhaul/longhaul/Iso8583AsciiCodec$LengthKind" "digits" "I" (.int 0)) (A : Arf Z h0 t "[B" .byte (128 : Int32) (fun j => .int (F j))) (Vs : Arf Z h0 vs "[Ljava/lang/String;" (.object "java/lang/String") (4 : Int32) (fun _ => .null)) (V : OvrN Z "[Ljava/lang/String;" "java/lang/String") (gv : n0 ≤ vs) (ne_t_vs : t ≠ vs) (hi0 : ¬ idx < 0) (hi4 : idx < 4) (hF : own_ok F) (hPN : s + 0 ≤ 128) (O2 : Sta Z Z.heap "java/lang/String" "COMPACT_STRINGS" "Z" (.int G1)) (P5 : ¬ G1 = 0) (Ou : Sta Z Z.heap "sun/nio/cs/UTF_8" "INSTANCE" "Lsun/nio/cs/UTF_8;" (.ref u8)) (Oi : Sta Z Z.heap "sun/nio/cs/ISO_8859_1" "INSTANCE" "Lsun/nio/cs/ISO_8859_1;" (.ref iso)) (Oa : Sta Z Z.heap "sun/nio/cs/US_ASCII" "INSTANCE" "Lsun/nio/cs/US_ASCII;" (.ref cs)) (ne_cs_u8 : cs ≠ u8) (ne_cs_iso : cs ≠ iso) (X : Old Z n0 h0) (Ecs : Exa Z h0 cs "sun/nio/cs/US_ASCII") (O4 : Sta Z Z.heap "jdk/internal/util/Preconditions" "SIOOBE_FORMATTER" "Ljava/util/function/BiFunction;" G3) (rG3 : G3.isRef = true) (Os : Sta Z Z.heap "java/nio/charset/StandardCharsets" "US_ASCII" "Ljava/nio/charset/Charset;" (.ref cs)) (hh : Jvm.Lit.constHeld Z "java/lang/String" 7) (hcw : Jvm.Lit.compactW.before a0 Z = true) :
    MetWI l Z (⟨"com/example/longhaul/longhaul/Iso8583AsciiCodec$FieldFormat", "read", "(I[BI[Ljava/lang/String;I)I"⟩ : MethodName) prog_15_method_4_code 9 (some .int) R_rd0z n0 h0 #[(.ref a), (.int e), (.ref t), (.int (Int32.ofNat s)), (.ref vs), (.int idx)] (fun r h => ∃ x : Addr, r = some (.int (Int32.ofNat (s + 0))) ∧ Old Z n0 h ∧ Arf Z h t "[B" .byte (128 : Int32) (fun j => .int (F j)) ∧ Arf Z h vs "[Ljava/lang/String;" (.object "java/lang/String") (4 : Int32) (upd (fun _ => .null) idx.toNatClampNeg (.ref x)) ∧ own_Str Z h x 0 (own_sub F s)) := by
  refine MetWI.intro (plainFor_of_name (by first | (simp [plainName, overriddenIn, x]; done) | decide +kernel)) (fun mM => (show entryFrame mM #[(.ref a), (.int e), (.ref t), (.int (Int32.ofNat s)), (.ref vs), (.int idx)] 9 = mkF mM 0 #[.val (.ref a), .val (.int e), .val (.ref t), .val (.int (Int32.ofNat s)), .val (.ref vs), .val (.int idx), .unset, .unset, .unset] [] from by first | rfl | (simp [entryFrame, mkF, argsToLocals, Value.category]; done))) (fun w Y C CW hH hI => ?_)
  refine g_iloadN C d4_0 (pc' := 1) rfl rfl ?_
  refine g_istore C d4_1 (pc' := 3) rfl (Ls' := #[.val (.ref a), .val (.int e), .val (.ref t), .val (.int (Int32.ofNat s)), .val (.ref vs), .val (.int idx), .val (.int (Int32.ofNat s)), .unset, .unset]) rfl ?_
  refine g_aloadN C d4_3 (pc' := 4) rfl rfl rfl ?_
  refine g_getF (host := "") C (Or.inl (hw _ (List.mem_of_getElem? (i := 24) rfl))) Via.refl Fm d4_4 (pc' := 7) rfl ?_
  refine g_istore C d4_7 (pc' := 9) rfl (Ls' := #[.val (.ref a), .val (.int e), .val (.ref t), .val (.int (Int32.ofNat s)), .val (.ref vs), .val (.int idx), .val (.int (Int32.ofNat s)), .val (.int (Int32.ofNat 0)), .unset]) rfl ?_
  refine g_aloadN C d4_9 (pc' := 10) rfl rfl rfl ?_
  refine g_getF (host := "") C (Or.inl (hw _ (List.mem_of_getElem? (i := 22) rfl))) Via.refl Fk d4_10 (pc' := 13) rfl ?_
  refine g_getF C (Or.inr (hw _ (List.mem_of_getElem? (i := 31) rfl))) Via.refl Fd d4_13 (pc' := 16) rfl ?_
  refine g_if_le C d4_16 (by decide) (pc' := 173) (by decide) (pcN := 19) rfl (fun _ => ?_) (fun q => absurd q (by decide))
  refine g_aloadN C d4_173 (pc' := 174) rfl rfl rfl ?_
  refine g_len C A d4_174 (pc' := 175) rfl ?_
  refine g_iload C d4_175 (pc' := 177) rfl rfl ?_
  refine g_isub C d4_177 (pc' := 178) rfl ?_
  rw [own_sub2 (by omega)]
  show Go w l _ n0 _ h0 0 0 178 #[.val (.ref a), .val (.int e), .val (.ref t), .val (.int (Int32.ofNat s)), .val (.ref vs), .val (.int idx), .val (.int (Int32.ofNat s)), .val (.int (Int32.ofNat 0)), .unset] [(.int (Int32.ofNat (128 - s)))]
  refine g_iload C d4_178 (pc' := 180) rfl rfl ?_
  refine g_icmp_ge C d4_180 (by decide) (pc' := 204) (by decide) (pcN := 183) rfl (fun _ => ?_) (fun q => absurd q (n32_ge (by omega) (by omega)))
  refine g_aload C d4_204 (pc' := 206) rfl rfl rfl ?_
  refine g_iload C d4_206 (pc' := 208) rfl rfl ?_
  refine g_new C (hw _ (List.mem_of_getElem? (i := 33) rfl)) (hw _ (List.mem_of_getElem? (i := 34) rfl)) (hw _ (List.mem_of_getElem? (i := 35) rfl)) d4_208 (pc' := 211) rfl (k' := 1) (n' := 4) rfl rfl (by decide) (by decide) ?_
  intro h64 b64 E64 fb64 gb64 A64 D64
  have ne_a_b64 : a ≠ b64 := Nat.ne_of_lt (Nat.lt_of_lt_of_le Fk.lt fb64)
  have ne_kd_b64 : kd ≠ b64 := Nat.ne_of_lt (Nat.lt_of_lt_of_le Fd.lt fb64)
  have ne_t_b64 : t ≠ b64 := Nat.ne_of_lt (Nat.lt_of_lt_of_le A.lt fb64)
  have ne_vs_b64 : vs ≠ b64 := Nat.ne_of_lt (Nat.lt_of_lt_of_le Vs.lt fb64)
  have ne_cs_b64 : cs ≠ b64 := Nat.ne_of_lt (Nat.lt_of_lt_of_le Ecs.lt fb64)
  have Fk := Fk.ext E64
  have Fm := Fm.ext E64
  have Fd := Fd.ext E64
  have A := A.ext E64
  have Vs := Vs.ext E64
  have X := X.ext E64
  have Ecs := Ecs.ext E64
  have F64_value : Fld Z h64 b64 "java/lang/String" "value" "[B" .null := D64 (Or.inr (hw _ (List.mem_of_getElem? (i := 93) rfl))) (ty := (.array .byte)) (by decide)
  have F64_coder : Fld Z h64 b64 "java/lang/String" "coder" "B" (.int (0 : Int32)) := D64 (Or.inr (hw _ (List.mem_of_getElem? (i := 95) rfl))) (ty := .byte) (by decide)
  refine g_dup C d4_211 (pc' := 212) rfl rfl ?_
  refine g_aloadN C d4_212 (pc' := 213) rfl rfl rfl ?_
  refine g_iload C d4_213 (pc' := 215) rfl rfl ?_
  refine g_iload C d4_215 (pc' := 217) rfl rfl ?_
  refine g_getS (host := "") C (Or.inl (hw _ (List.mem_of_getElem? (i := 36) rfl))) Via.refl (Os.ext X.2) d4_217 (pc' := 220) rfl ?_
  refine g_specialS (rm := R_s_out0) (a := b64) C CW (y := (⟨"java/lang/String", "<init>", "([BIILjava/nio/charset/Charset;)V"⟩ : MethodName)) rfl (hw _ (List.mem_of_getElem? (i := 38) rfl)) (hw _ (List.mem_of_getElem? (i := 39) rfl)) (hw _ (List.mem_of_getElem? (i := 40) rfl)) (by decide) d4_220 (pc' := 223) rfl (argsL := [(.ref t), (.int (Int32.ofNat s)), (.int (Int32.ofNat 0)), (.ref cs)]) (rest := [(.ref b64), (.int idx), (.ref vs)]) (lenOf pd_14 rfl) rfl (W := 3) (Nat.le_of_eq rfl) rfl (fun hn9 => MetWI.back (rm := R_s_out0) (s_out0 hw b64 cs t s F G3 F64_value F64_coder A64 gb64 A (by omega) X Ecs O4 rG3 hh hcw) hn9 C.hZ hI (hw _ (List.mem_of_getElem? (i := 40) rfl)) (hw _ (List.mem_of_getElem? (i := 35) rfl)) (by decide) (by decide)) (k' := 3) (n' := 8) rfl rfl (by decide) (by decide) ?_
  rintro w _ h65 C CW ⟨rfl, Kx, Ex, t2, Fc, Fv, Bx⟩
  have Fk := Fk.keep Kx (ninS ne_a_b64 nin0)
  have Fm := Fm.keep Kx (ninS ne_a_b64 nin0)
  have Fd := Fd.keep Kx (ninS ne_kd_b64 nin0)
  have A := A.keep Kx (ninS ne_t_b64 nin0)
  have Vs := Vs.keep Kx (ninS ne_vs_b64 nin0)
  have X := X.keep Kx (allS gb64 all0)
  have Ecs := Ecs.keep Kx
  have ne_t2_vs : t2 ≠ vs := own_neA Bx Vs
  show Go w l _ n0 _ h65 3 8 223 #[.val (.ref a), .val (.int e), .val (.ref t), .val (.int (Int32.ofNat s)), .val (.ref vs), .val (.int idx), .val (.int (Int32.ofNat s)), .val (.int (Int32.ofNat 0)), .unset] [(.ref b64), (.int idx), (.ref vs)]
  refine g_aastore C V Vs hi0 hi4 (Ins.self Ex) d4_223 (pc' := 224) rfl gv (fun h66 W67 Vs' => ?_)
  have A := A.other W67 ne_t_vs
  have X := X.wr W67 gv
  have Ecs := Ecs.wr W67
  have Ex := Ex.wr W67
  have Fc := Fc.other W67 (Or.inl (Ne.symm ne_vs_b64))
  have Fv := Fv.other W67 (Or.inl (Ne.symm ne_vs_b64))
  have Bx := Bx.other W67 ne_t2_vs
  have Vs : Arf Z h66 vs "[Ljava/lang/String;" (.object "java/lang/String") (4 : Int32) (upd (fun _ => .null) idx.toNatClampNeg (.ref b64)) := Vs'
  refine g_iload C d4_224 (pc' := 226) rfl rfl ?_
  refine g_iload C d4_226 (pc' := 228) rfl rfl ?_
  refine g_iadd C d4_228 (pc' := 229) rfl ?_
  exact g_retI C rfl d4_229 ⟨b64, by rw [← Int32.ofNat_add], X, A, Vs, Ex, t2, Fc, Fv, Bx⟩ (by decide) (by decide)
def R_rd2 : Room := ({ frames := 5, cells := 2, slots := 132, locals := 90 } : Room)
set_option maxRecDepth 65536 in
set_option maxHeartbeats 40000000 in
theorem rd2 {l : Launch} {Z : State} {a0 : Array Value} (hw : ∀ d ∈ tables_1, d.before a0 Z = true) {h0 : Heap} {n0 : Nat} (a kd t vs cs u8 iso : Addr) (s N : Nat) (F : Nat → Int32) (M idx e G1 : Int32) (G3 : Value) (Fk : Fld Z h0 a "com/example/longhaul/longhaul/Iso8583AsciiCodec$FieldFormat" "kind" "Lcom/example/longhaul/longhaul/Iso8583AsciiCodec$LengthKind;" (.ref kd)) (Fm : Fld Z h0 a "com/example/longhaul/longhaul/Iso8583AsciiCodec$FieldFormat" "maxLength" "I" (.int M)) (Fd : Fld Z h0 kd "com/example/longhaul/longhaul/Iso8583AsciiCodec$LengthKind" "digits" "I" (.int 2)) (A : Arf Z h0 t "[B" .byte (128 : Int32) (fun j => .int (F j))) (Vs : Arf Z h0 vs "[Ljava/lang/String;" (.object "java/lang/String") (4 : Int32) (fun _ => .null)) (V : OvrN Z "[Ljava/lang/String;" "java/lang/String") (gv : n0 ≤ vs) (ne_t_vs : t ≠ vs) (hi0 : ¬ idx < 0) (hi4 : idx < 4) (hF : own_ok F) (hPN : (s + 2) + N ≤ 128) (O2 : Sta Z Z.heap "java/lang/String" "COMPACT_STRINGS" "Z" (.int G1)) (P5 : ¬ G1 = 0) (Ou : Sta Z Z.heap "sun/nio/cs/UTF_8" "INSTANCE" "Lsun/nio/cs/UTF_8;" (.ref u8)) (Oi : Sta Z Z.heap "sun/nio/cs/ISO_8859_1" "INSTANCE" "Lsun/nio/cs/ISO_8859_1;" (.ref iso)) (Oa : Sta Z Z.heap "sun/nio/cs/US_ASCII" "INSTANCE" "Lsun/nio/cs/US_ASCII;" (.ref cs)) (ne_cs_u8 : cs ≠ u8) (ne_cs_iso : cs ≠ iso) (X : Old Z n0 h0) (Ecs : Exa Z h0 cs "sun/nio/cs/US_ASCII") (O4 : Sta Z Z.heap "jdk/internal/util/Preconditions" "SIOOBE_FORMATTER" "Ljava/util/function/BiFunction;" G3) (rG3 : G3.isRef = true) (Os : Sta Z Z.heap "java/nio/charset/StandardCharsets" "US_ASCII" "Ljava/nio/charset/Charset;" (.ref cs)) (hd0 : 48 ≤ (F s).toInt ∧ (F s).toInt ≤ 57) (hd1 : 48 ≤ (F (s + 1)).toInt ∧ (F (s + 1)).toInt ≤ 57) (hv : ((((((0 : Int32) + (F s)) - (48 : Int32)) * (10 : Int32)) + (F (s + 1))) - (48 : Int32)) = Int32.ofNat N) (hM : ¬ M < Int32.ofNat N) (h1 : 1 ≤ N) :
    Met l Z (⟨"com/example/longhaul/longhaul/Iso8583AsciiCodec$FieldFormat", "read", "(I[BI[Ljava/lang/String;I)I"⟩ : MethodName) prog_15_method_4_code 9 (some .int) R_rd2 n0 h0 #[(.ref a), (.int e), (.ref t), (.int (Int32.ofNat s)), (.ref vs), (.int idx)] (fun r h => ∃ x : Addr, r = some (.int (Int32.ofNat ((s + 2) + N))) ∧ Old Z n0 h ∧ Arf Z h t "[B" .byte (128 : Int32) (fun j => .int (F j)) ∧ Arf Z h vs "[Ljava/lang/String;" (.object "java/lang/String") (4 : Int32) (upd (fun _ => .null) idx.toNatClampNeg (.ref x)) ∧ own_Str Z h x N (own_sub F (s + 2))) := by
  refine Met.intro (plainFor_of_name (by first | (simp [plainName, overriddenIn, x]; done) | decide +kernel)) (fun mM => (show entryFrame mM #[(.ref a), (.int e), (.ref t), (.int (Int32.ofNat s)), (.ref vs), (.int idx)] 9 = mkF mM 0 #[.val (.ref a), .val (.int e), .val (.ref t), .val (.int (Int32.ofNat s)), .val (.ref vs), .val (.int idx), .unset, .unset, .unset] [] from by first | rfl | (simp [entryFrame, mkF, argsToLocals, Value.category]; done))) (fun w Y C => ?_)
  refine g_iloadN C d4_0 (pc' := 1) rfl rfl ?_
  refine g_istore C d4_1 (pc' := 3) rfl (Ls' := #[.val (.ref a), .val (.int e), .val (.ref t), .val (.int (Int32.ofNat s)), .val (.ref vs), .val (.int idx), .val (.int (Int32.ofNat s)), .unset, .unset]) rfl ?_
  refine g_aloadN C d4_3 (pc' := 4) rfl rfl rfl ?_
  refine g_getF (host := "") C (Or.inl (hw _ (List.mem_of_getElem? (i := 24) rfl))) Via.refl Fm d4_4 (pc' := 7) rfl ?_
  refine g_istore C d4_7 (pc' := 9) rfl (Ls' := #[.val (.ref a), .val (.int e), .val (.ref t), .val (.int (Int32.ofNat s)), .val (.ref vs), .val (.int idx), .val (.int (Int32.ofNat s)), .val (.int M), .unset]) rfl ?_
  refine g_aloadN C d4_9 (pc' := 10) rfl rfl rfl ?_
  refine g_getF (host := "") C (Or.inl (hw _ (List.mem_of_getElem? (i := 22) rfl))) Via.refl Fk d4_10 (pc' := 13) rfl ?_
  refine g_getF C (Or.inr (hw _ (List.mem_of_getElem? (i := 31) rfl))) Via.refl Fd d4_13 (pc' := 16) rfl ?_
  refine g_if_le C d4_16 (by decide) (pc' := 173) (by decide) (pcN := 19) rfl (fun q => absurd q (by decide)) (fun _ => ?_)
  refine g_iload C d4_19 (pc' := 21) rfl rfl ?_
  refine g_aloadN C d4_21 (pc' := 22) rfl rfl rfl ?_
  refine g_getF (host := "") C (Or.inl (hw _ (List.mem_of_getElem? (i := 22) rfl))) Via.refl Fk d4_22 (pc' := 25) rfl ?_
  refine g_getF C (Or.inr (hw _ (List.mem_of_getElem? (i := 31) rfl))) Via.refl Fd d4_25 (pc' := 28) rfl ?_
  refine g_iadd C d4_28 (pc' := 29) rfl ?_
  rw [own_ix (K := (2 : Int32)) (k := 2) rfl]
  show Go w l _ n0 _ h0 0 0 29 #[.val (.ref a), .val (.int e), .val (.ref t), .val (.int (Int32.ofNat s)), .val (.ref vs), .val (.int idx), .val (.int (Int32.ofNat s)), .val (.int M), .unset] [(.int (Int32.ofNat (s + 2)))]
  refine g_istore C d4_29 (pc' := 31) rfl (Ls' := #[.val (.ref a), .val (.int e), .val (.ref t), .val (.int (Int32.ofNat s)), .val (.ref vs), .val (.int idx), .val (.int (Int32.ofNat (s + 2))), .val (.int M), .unset]) rfl ?_
  refine g_iload C d4_31 (pc' := 33) rfl rfl ?_
  refine g_aloadN C d4_33 (pc' := 34) rfl rfl rfl ?_
  refine g_len C A d4_34 (pc' := 35) rfl ?_
  refine g_icmp_le C d4_35 (by decide) (pc' := 52) (by decide) (pcN := 38) rfl (fun _ => ?_) (fun q => absurd q (own_le128 (by omega)))
  refine g_iconst C (z := (0 : Int32)) d4_52 (pc' := 53) rfl rfl ?_
  refine g_istore C d4_53 (pc' := 55) rfl (Ls' := #[.val (.ref a), .val (.int e), .val (.ref t), .val (.int (Int32.ofNat s)), .val (.ref vs), .val (.int idx), .val (.int (Int32.ofNat (s + 2))), .val (.int (0 : Int32)), .unset]) rfl ?_
  refine g_iloadN C d4_55 (pc' := 56) rfl rfl ?_
  refine g_istore C d4_56 (pc' := 58) rfl (Ls' := #[.val (.ref a), .val (.int e), .val (.ref t), .val (.int (Int32.ofNat s)), .val (.ref vs), .val (.int idx), .val (.int (Int32.ofNat (s + 2))), .val (.int (0 : Int32)), .val (.int (Int32.ofNat s))]) rfl ?_
  refine g_iload C d4_58 (pc' := 60) rfl rfl ?_
  refine g_iload C d4_60 (pc' := 62) rfl rfl ?_
  refine g_icmp_ge C d4_62 (by decide) (pc' := 144) (by decide) (pcN := 65) rfl (fun q => absurd (n32_lt (by omega) (by omega)) q) (fun _ => ?_)
  refine g_aloadN C d4_65 (pc' := 66) rfl rfl rfl ?_
  refine g_iload C d4_66 (pc' := 68) rfl rfl ?_
  refine g_baload C (v := (.int (F s))) A (n32_nn (by omega)) (n32_lt (n := 128) (by omega) (by omega)) (by show Value.int (F _) = _; rw [n32_nat (by omega)]) d4_68 (pc' := 69) rfl ?_
  refine g_bipush C (z := (48 : Int32)) d4_69 (pc' := 71) rfl rfl ?_
  refine g_icmp_lt C d4_71 (by decide) (pc' := 83) (by decide) (pcN := 74) rfl (fun q => absurd q (own_ge48 hd0)) (fun _ => ?_)
  refine g_aloadN C d4_74 (pc' := 75) rfl rfl rfl ?_
  refine g_iload C d4_75 (pc' := 77) rfl rfl ?_
  refine g_baload C (v := (.int (F s))) A (n32_nn (by omega)) (n32_lt (n := 128) (by omega) (by omega)) (by show Value.int (F _) = _; rw [n32_nat (by omega)]) d4_77 (pc' := 78) rfl ?_
  refine g_bipush C (z := (57 : Int32)) d4_78 (pc' := 80) rfl rfl ?_
  refine g_icmp_le C d4_80 (by decide) (pc' := 123) (by decide) (pcN := 83) rfl (fun _ => ?_) (fun q => absurd q (own_le57 hd0))
  refine g_iload C d4_123 (pc' := 125) rfl rfl ?_
  refine g_bipush C (z := (10 : Int32)) d4_125 (pc' := 127) rfl rfl ?_
  refine g_imul C d4_127 (pc' := 128) rfl ?_
  show Go w l _ n0 _ h0 0 0 128 #[.val (.ref a), .val (.int e), .val (.ref t), .val (.int (Int32.ofNat s)), .val (.ref vs), .val (.int idx), .val (.int (Int32.ofNat (s + 2))), .val (.int (0 : Int32)), .val (.int (Int32.ofNat s))] [(.int (0 : Int32))]
  refine g_aloadN C d4_128 (pc' := 129) rfl rfl rfl ?_
  refine g_iload C d4_129 (pc' := 131) rfl rfl ?_
  refine g_baload C (v := (.int (F s))) A (n32_nn (by omega)) (n32_lt (n := 128) (by omega) (by omega)) (by show Value.int (F _) = _; rw [n32_nat (by omega)]) d4_131 (pc' := 132) rfl ?_
  refine g_iadd C d4_132 (pc' := 133) rfl ?_
  refine g_bipush C (z := (48 : Int32)) d4_133 (pc' := 135) rfl rfl ?_
  refine g_isub C d4_135 (pc' := 136) rfl ?_
  refine g_istore C d4_136 (pc' := 138) rfl (Ls' := #[.val (.ref a), .val (.int e), .val (.ref t), .val (.int (Int32.ofNat s)), .val (.ref vs), .val (.int idx), .val (.int (Int32.ofNat (s + 2))), .val (.int (((0 : Int32) + (F s)) - (48 : Int32))), .val (.int (Int32.ofNat s))]) rfl ?_
  refine g_iinc C d4_138 (pc' := 141) rfl rfl (z := ((Int32.ofNat s) + (1 : Int32))) rfl (Ls' := #[.val (.ref a), .val (.int e), .val (.ref t), .val (.int (Int32.ofNat s)), .val (.ref vs), .val (.int idx), .val (.int (Int32.ofNat (s + 2))), .val (.int (((0 : Int32) + (F s)) - (48 : Int32))), .val (.int ((Int32.ofNat s) + (1 : Int32)))]) rfl ?_
  refine g_goto C d4_141 (by decide) (pc' := 58) (by decide) ?_
  rw [n32_succ]
  show Go w l _ n0 _ h0 0 0 58 #[.val (.ref a), .val (.int e), .val (.ref t), .val (.int (Int32.ofNat s)), .val (.ref vs), .val (.int idx), .val (.int (Int32.ofNat (s + 2))), .val (.int (((0 : Int32) + (F s)) - (48 : Int32))), .val (.int (Int32.ofNat (s + 1)))] []
  refine g_iload C d4_58 (pc' := 60) rfl rfl ?_
  refine g_iload C d4_60 (pc' := 62) rfl rfl ?_
  refine g_icmp_ge C d4_62 (by decide) (pc' := 144) (by decide) (pcN := 65) rfl (fun q => absurd (n32_lt (by omega) (by omega)) q) (fun _ => ?_)
  refine g_aloadN C d4_65 (pc' := 66) rfl rfl rfl ?_
  refine g_iload C d4_66 (pc' := 68) rfl rfl ?_
  refine g_baload C (v := (.int (F (s + 1)))) A (n32_nn (by omega)) (n32_lt (n := 128) (by omega) (by omega)) (by show Value.int (F _) = _; rw [n32_nat (by omega)]) d4_68 (pc' := 69) rfl ?_
  refine g_bipush C (z := (48 : Int32)) d4_69 (pc' := 71) rfl rfl ?_
  refine g_icmp_lt C d4_71 (by decide) (pc' := 83) (by decide) (pcN := 74) rfl (fun q => absurd q (own_ge48 hd1)) (fun _ => ?_)
  refine g_aloadN C d4_74 (pc' := 75) rfl rfl rfl ?_
  refine g_iload C d4_75 (pc' := 77) rfl rfl ?_
  refine g_baload C (v := (.int (F (s + 1)))) A (n32_nn (by omega)) (n32_lt (n := 128) (by omega) (by omega)) (by show Value.int (F _) = _; rw [n32_nat (by omega)]) d4_77 (pc' := 78) rfl ?_
  refine g_bipush C (z := (57 : Int32)) d4_78 (pc' := 80) rfl rfl ?_
  refine g_icmp_le C d4_80 (by decide) (pc' := 123) (by decide) (pcN := 83) rfl (fun _ => ?_) (fun q => absurd q (own_le57 hd1))
  refine g_iload C d4_123 (pc' := 125) rfl rfl ?_
  refine g_bipush C (z := (10 : Int32)) d4_125 (pc' := 127) rfl rfl ?_
  refine g_imul C d4_127 (pc' := 128) rfl ?_
  refine g_aloadN C d4_128 (pc' := 129) rfl rfl rfl ?_
  refine g_iload C d4_129 (pc' := 131) rfl rfl ?_
  refine g_baload C (v := (.int (F (s + 1)))) A (n32_nn (by omega)) (n32_lt (n := 128) (by omega) (by omega)) (by show Value.int (F _) = _; rw [n32_nat (by omega)]) d4_131 (pc' := 132) rfl ?_
  refine g_iadd C d4_132 (pc' := 133) rfl ?_
  refine g_bipush C (z := (48 : Int32)) d4_133 (pc' := 135) rfl rfl ?_
  refine g_isub C d4_135 (pc' := 136) rfl ?_
  refine g_istore C d4_136 (pc' := 138) rfl (Ls' := #[.val (.ref a), .val (.int e), .val (.ref t), .val (.int (Int32.ofNat s)), .val (.ref vs), .val (.int idx), .val (.int (Int32.ofNat (s + 2))), .val (.int ((((((0 : Int32) + (F s)) - (48 : Int32)) * (10 : Int32)) + (F (s + 1))) - (48 : Int32))), .val (.int (Int32.ofNat (s + 1)))]) rfl ?_
  refine g_iinc C d4_138 (pc' := 141) rfl rfl (z := ((Int32.ofNat (s + 1)) + (1 : Int32))) rfl (Ls' := #[.val (.ref a), .val (.int e), .val (.ref t), .val (.int (Int32.ofNat s)), .val (.ref vs), .val (.int idx), .val (.int (Int32.ofNat (s + 2))), .val (.int ((((((0 : Int32) + (F s)) - (48 : Int32)) * (10 : Int32)) + (F (s + 1))) - (48 : Int32))), .val (.int ((Int32.ofNat (s + 1)) + (1 : Int32)))]) rfl ?_
  refine g_goto C d4_141 (by decide) (pc' := 58) (by decide) ?_
  rw [n32_succ]
  show Go w l _ n0 _ h0 0 0 58 #[.val (.ref a), .val (.int e), .val (.ref t), .val (.int (Int32.ofNat s)), .val (.ref vs), .val (.int idx), .val (.int (Int32.ofNat (s + 2))), .val (.int ((((((0 : Int32) + (F s)) - (48 : Int32)) * (10 : Int32)) + (F (s + 1))) - (48 : Int32))), .val (.int (Int32.ofNat (s + 1 + 1)))] []
  refine g_iload C d4_58 (pc' := 60) rfl rfl ?_
  refine g_iload C d4_60 (pc' := 62) rfl rfl ?_
  refine g_icmp_ge C d4_62 (by decide) (pc' := 144) (by decide) (pcN := 65) rfl (fun _ => ?_) (fun q => absurd q (n32_ge (by omega) (by omega)))
  rw [hv]
  show Go w l _ n0 _ h0 0 0 144 #[.val (.ref a), .val (.int e), .val (.ref t), .val (.int (Int32.ofNat s)), .val (.ref vs), .val (.int idx), .val (.int (Int32.ofNat (s + 2))), .val (.int (Int32.ofNat N)), .val (.int (Int32.ofNat (s + 1 + 1)))] []
  refine g_iload C d4_144 (pc' := 146) rfl rfl ?_
  refine g_aloadN C d4_146 (pc' := 147) rfl rfl rfl ?_
  refine g_getF (host := "") C (Or.inl (hw _ (List.mem_of_getElem? (i := 24) rfl))) Via.refl Fm d4_147 (pc' := 150) rfl ?_
  refine g_icmp_le C d4_150 (by decide) (pc' := 173) (by decide) (pcN := 153) rfl (fun _ => ?_) (fun q => absurd q hM)
  refine g_aloadN C d4_173 (pc' := 174) rfl rfl rfl ?_
  refine g_len C A d4_174 (pc' := 175) rfl ?_
  refine g_iload C d4_175 (pc' := 177) rfl rfl ?_
  refine g_isub C d4_177 (pc' := 178) rfl ?_
  rw [own_sub2 (by omega)]
  show Go w l _ n0 _ h0 0 0 178 #[.val (.ref a), .val (.int e), .val (.ref t), .val (.int (Int32.ofNat s)), .val (.ref vs), .val (.int idx), .val (.int (Int32.ofNat (s + 2))), .val (.int (Int32.ofNat N)), .val (.int (Int32.ofNat (s + 1 + 1)))] [(.int (Int32.ofNat (128 - (s + 2))))]
  refine g_iload C d4_178 (pc' := 180) rfl rfl ?_
  refine g_icmp_ge C d4_180 (by decide) (pc' := 204) (by decide) (pcN := 183) rfl (fun _ => ?_) (fun q => absurd q (n32_ge (by omega) (by omega)))
  refine g_aload C d4_204 (pc' := 206) rfl rfl rfl ?_
  refine g_iload C d4_206 (pc' := 208) rfl rfl ?_
  refine g_new C (hw _ (List.mem_of_getElem? (i := 33) rfl)) (hw _ (List.mem_of_getElem? (i := 34) rfl)) (hw _ (List.mem_of_getElem? (i := 35) rfl)) d4_208 (pc' := 211) rfl (k' := 1) (n' := 4) rfl rfl (by decide) (by decide) ?_
  intro h68 b68 E68 fb68 gb68 A68 D68
  have ne_a_b68 : a ≠ b68 := Nat.ne_of_lt (Nat.lt_of_lt_of_le Fk.lt fb68)
  have ne_kd_b68 : kd ≠ b68 := Nat.ne_of_lt (Nat.lt_of_lt_of_le Fd.lt fb68)
  have ne_t_b68 : t ≠ b68 := Nat.ne_of_lt (Nat.lt_of_lt_of_le A.lt fb68)
  have ne_vs_b68 : vs ≠ b68 := Nat.ne_of_lt (Nat.lt_of_lt_of_le Vs.lt fb68)
  have ne_cs_b68 : cs ≠ b68 := Nat.ne_of_lt (Nat.lt_of_lt_of_le Ecs.lt fb68)
  have Fk := Fk.ext E68
  have Fm := Fm.ext E68
  have Fd := Fd.ext E68
  have A := A.ext E68
  have Vs := Vs.ext E68
  have X := X.ext E68
  have Ecs := Ecs.ext E68
  have F68_value : Fld Z h68 b68 "java/lang/String" "value" "[B" .null := D68 (Or.inr (hw _ (List.mem_of_getElem? (i := 93) rfl))) (ty := (.array .byte)) (by decide)
  have F68_coder : Fld Z h68 b68 "java/lang/String" "coder" "B" (.int (0 : Int32)) := D68 (Or.inr (hw _ (List.mem_of_getElem? (i := 95) rfl))) (ty := .byte) (by decide)
  refine g_dup C d4_211 (pc' := 212) rfl rfl ?_
  refine g_aloadN C d4_212 (pc' := 213) rfl rfl rfl ?_
  refine g_iload C d4_213 (pc' := 215) rfl rfl ?_
  refine g_iload C d4_215 (pc' := 217) rfl rfl ?_
  refine g_getS (host := "") C (Or.inl (hw _ (List.mem_of_getElem? (i := 36) rfl))) Via.refl (Os.ext X.2) d4_217 (pc' := 220) rfl ?_
  refine g_special (rm := R_s_out) (a := b68) C (y := (⟨"java/lang/String", "<init>", "([BIILjava/nio/charset/Charset;)V"⟩ : MethodName)) rfl (hw _ (List.mem_of_getElem? (i := 38) rfl)) (hw _ (List.mem_of_getElem? (i := 39) rfl)) (hw _ (List.mem_of_getElem? (i := 40) rfl)) (by decide) d4_220 (pc' := 223) rfl (argsL := [(.ref t), (.int (Int32.ofNat (s + 2))), (.int (Int32.ofNat N)), (.ref cs)]) (rest := [(.ref b68), (.int idx), (.ref vs)]) (lenOf pd_14 rfl) rfl (W := 3) (Nat.le_of_eq rfl) rfl (fun hn9 => Met.back (rm := R_s_out) (s_out hw b68 cs u8 iso t (s + 2) N F G1 G3 F68_value F68_coder A68 gb68 A hF hPN h1 O2 P5 Ou Oi Oa ne_cs_u8 ne_cs_iso X Ecs O4 rG3) hn9 C.hZ (hw _ (List.mem_of_getElem? (i := 40) rfl)) (hw _ (List.mem_of_getElem? (i := 35) rfl)) (by decide) (by decide)) (k' := 2) (n' := 132) rfl rfl (by decide) (by decide) ?_
  rintro _ h69 ⟨rfl, Kx, Ex, t2, Fc, Fv, Bx⟩
  have Fk := Fk.keep Kx (ninS ne_a_b68 nin0)
  have Fm := Fm.keep Kx (ninS ne_a_b68 nin0)
  have Fd := Fd.keep Kx (ninS ne_kd_b68 nin0)
  have A := A.keep Kx (ninS ne_t_b68 nin0)
  have Vs := Vs.keep Kx (ninS ne_vs_b68 nin0)
  have X := X.keep Kx (allS gb68 all0)
  have Ecs := Ecs.keep Kx
  have ne_t2_vs : t2 ≠ vs := own_neA Bx Vs
  show Go w l _ n0 _ h69 2 132 223 #[.val (.ref a), .val (.int e), .val (.ref t), .val (.int (Int32.ofNat s)), .val (.ref vs), .val (.int idx), .val (.int (Int32.ofNat (s + 2))), .val (.int (Int32.ofNat N)), .val (.int (Int32.ofNat (s + 1 + 1)))] [(.ref b68), (.int idx), (.ref vs)]
  refine g_aastore C V Vs hi0 hi4 (Ins.self Ex) d4_223 (pc' := 224) rfl gv (fun h70 W71 Vs' => ?_)
  have A := A.other W71 ne_t_vs
  have X := X.wr W71 gv
  have Ecs := Ecs.wr W71
  have Ex := Ex.wr W71
  have Fc := Fc.other W71 (Or.inl (Ne.symm ne_vs_b68))
  have Fv := Fv.other W71 (Or.inl (Ne.symm ne_vs_b68))
  have Bx := Bx.other W71 ne_t2_vs
  have Vs : Arf Z h70 vs "[Ljava/lang/String;" (.object "java/lang/String") (4 : Int32) (upd (fun _ => .null) idx.toNatClampNeg (.ref b68)) := Vs'
  refine g_iload C d4_224 (pc' := 226) rfl rfl ?_
  refine g_iload C d4_226 (pc' := 228) rfl rfl ?_
  refine g_iadd C d4_228 (pc' := 229) rfl ?_
  exact g_retI C rfl d4_229 ⟨b68, by rw [← Int32.ofNat_add], X, A, Vs, Ex, t2, Fc, Fv, Bx⟩ (by decide) (by decide)
def R_rd2z : Room := ({ frames := 3, cells := 3, slots := 8, locals := 53 } : Room)
set_option maxRecDepth 65536 in
set_option maxHeartbeats 40000000 in
theorem rd2z {l : Launch} {Z : State} {a0 : Array Value} (hw : ∀ d ∈ tables_1, d.before a0 Z = true) {h0 : Heap} {n0 : Nat} (a kd t vs cs u8 iso : Addr) (s N : Nat) (F : Nat → Int32) (M idx e G1 : Int32) (G3 : Value) (Fk : Fld Z h0 a "com/example/longhaul/longhaul/Iso8583AsciiCodec$FieldFormat" "kind" "Lcom/example/longhaul/longhaul/Iso8583AsciiCodec$LengthKind;" (.ref kd)) (Fm : Fld Z h0 a "com/example/longhaul/longhaul/Iso8583AsciiCodec$FieldFormat" "maxLength" "I" (.int M)) (Fd : Fld Z h0 kd "com/example/longhaul/longhaul/Iso8583AsciiCodec$LengthKind" "digits" "I" (.int 2)) (A : Arf Z h0 t "[B" .byte (128 : Int32) (fun j => .int (F j))) (Vs : Arf Z h0 vs "[Ljava/lang/String;" (.object "java/lang/String") (4 : Int32) (fun _ => .null)) (V : OvrN Z "[Ljava/lang/String;" "java/lang/String") (gv : n0 ≤ vs) (ne_t_vs : t ≠ vs) (hi0 : ¬ idx < 0) (hi4 : idx < 4) (hF : own_ok F) (hPN : (s + 2) + 0 ≤ 128) (O2 : Sta Z Z.heap "java/lang/String" "COMPACT_STRINGS" "Z" (.int G1)) (P5 : ¬ G1 = 0) (Ou : Sta Z Z.heap "sun/nio/cs/UTF_8" "INSTANCE" "Lsun/nio/cs/UTF_8;" (.ref u8)) (Oi : Sta Z Z.heap "sun/nio/cs/ISO_8859_1" "INSTANCE" "Lsun/nio/cs/ISO_8859_1;" (.ref iso)) (Oa : Sta Z Z.heap "sun/nio/cs/US_ASCII" "INSTANCE" "Lsun/nio/cs/US_ASCII;" (.ref cs)) (ne_cs_u8 : cs ≠ u8) (ne_cs_iso : cs ≠ iso) (X : Old Z n0 h0) (Ecs : Exa Z h0 cs "sun/nio/cs/US_ASCII") (O4 : Sta Z Z.heap "jdk/internal/util/Preconditions" "SIOOBE_FORMATTER" "Ljava/util/function/BiFunction;" G3) (rG3 : G3.isRef = true) (Os : Sta Z Z.heap "java/nio/charset/StandardCharsets" "US_ASCII" "Ljava/nio/charset/Charset;" (.ref cs)) (hd0 : 48 ≤ (F s).toInt ∧ (F s).toInt ≤ 57) (hd1 : 48 ≤ (F (s + 1)).toInt ∧ (F (s + 1)).toInt ≤ 57) (hv : ((((((0 : Int32) + (F s)) - (48 : Int32)) * (10 : Int32)) + (F (s + 1))) - (48 : Int32)) = Int32.ofNat 0) (hM : ¬ M < Int32.ofNat 0) (hh : Jvm.Lit.constHeld Z "java/lang/String" 7) (hcw : Jvm.Lit.compactW.before a0 Z = true) :
    MetWI l Z (⟨"com/example/longhaul/longhaul/Iso8583AsciiCodec$FieldFormat", "read", "(I[BI[Ljava/lang/String;I)I"⟩ : MethodName) prog_15_method_4_code 9 (some .int) R_rd2z n0 h0 #[(.ref a), (.int e), (.ref t), (.int (Int32.ofNat s)), (.ref vs), (.int idx)] (fun r h => ∃ x : Addr, r = some (.int (Int32.ofNat ((s + 2) + 0))) ∧ Old Z n0 h ∧ Arf Z h t "[B" .byte (128 : Int32) (fun j => .int (F j)) ∧ Arf Z h vs "[Ljava/lang/String;" (.object "java/lang/String") (4 : Int32) (upd (fun _ => .null) idx.toNatClampNeg (.ref x)) ∧ own_Str Z h x 0 (own_sub F (s + 2))) := by
  refine MetWI.intro (plainFor_of_name (by first | (simp [plainName, overriddenIn, x]; done) | decide +kernel)) (fun mM => (show entryFrame mM #[(.ref a), (.int e), (.ref t), (.int (Int32.ofNat s)), (.ref vs), (.int idx)] 9 = mkF mM 0 #[.val (.ref a), .val (.int e), .val (.ref t), .val (.int (Int32.ofNat s)), .val (.ref vs), .val (.int idx), .unset, .unset, .unset] [] from by first | rfl | (simp [entryFrame, mkF, argsToLocals, Value.category]; done))) (fun w Y C CW hH hI => ?_)
  refine g_iloadN C d4_0 (pc' := 1) rfl rfl ?_
  refine g_istore C d4_1 (pc' := 3) rfl (Ls' := #[.val (.ref a), .val (.int e), .val (.ref t), .val (.int (Int32.ofNat s)), .val (.ref vs), .val (.int idx), .val (.int (Int32.ofNat s)), .unset, .unset]) rfl ?_
  refine g_aloadN C d4_3 (pc' := 4) rfl rfl rfl ?_
  refine g_getF (host := "") C (Or.inl (hw _ (List.mem_of_getElem? (i := 24) rfl))) Via.refl Fm d4_4 (pc' := 7) rfl ?_
  refine g_istore C d4_7 (pc' := 9) rfl (Ls' := #[.val (.ref a), .val (.int e), .val (.ref t), .val (.int (Int32.ofNat s)), .val (.ref vs), .val (.int idx), .val (.int (Int32.ofNat s)), .val (.int M), .unset]) rfl ?_
  refine g_aloadN C d4_9 (pc' := 10) rfl rfl rfl ?_
  refine g_getF (host := "") C (Or.inl (hw _ (List.mem_of_getElem? (i := 22) rfl))) Via.refl Fk d4_10 (pc' := 13) rfl ?_
  refine g_getF C (Or.inr (hw _ (List.mem_of_getElem? (i := 31) rfl))) Via.refl Fd d4_13 (pc' := 16) rfl ?_
  refine g_if_le C d4_16 (by decide) (pc' := 173) (by decide) (pcN := 19) rfl (fun q => absurd q (by decide)) (fun _ => ?_)
  refine g_iload C d4_19 (pc' := 21) rfl rfl ?_
  refine g_aloadN C d4_21 (pc' := 22) rfl rfl rfl ?_
  refine g_getF (host := "") C (Or.inl (hw _ (List.mem_of_getElem? (i := 22) rfl))) Via.refl Fk d4_22 (pc' := 25) rfl ?_
  refine g_getF C (Or.inr (hw _ (List.mem_of_getElem? (i := 31) rfl))) Via.refl Fd d4_25 (pc' := 28) rfl ?_
  refine g_iadd C d4_28 (pc' := 29) rfl ?_
  rw [own_ix (K := (2 : Int32)) (k := 2) rfl]
  show Go w l _ n0 _ h0 0 0 29 #[.val (.ref a), .val (.int e), .val (.ref t), .val (.int (Int32.ofNat s)), .val (.ref vs), .val (.int idx), .val (.int (Int32.ofNat s)), .val (.int M), .unset] [(.int (Int32.ofNat (s + 2)))]
  refine g_istore C d4_29 (pc' := 31) rfl (Ls' := #[.val (.ref a), .val (.int e), .val (.ref t), .val (.int (Int32.ofNat s)), .val (.ref vs), .val (.int idx), .val (.int (Int32.ofNat (s + 2))), .val (.int M), .unset]) rfl ?_
  refine g_iload C d4_31 (pc' := 33) rfl rfl ?_
  refine g_aloadN C d4_33 (pc' := 34) rfl rfl rfl ?_
  refine g_len C A d4_34 (pc' := 35) rfl ?_
  refine g_icmp_le C d4_35 (by decide) (pc' := 52) (by decide) (pcN := 38) rfl (fun _ => ?_) (fun q => absurd q (own_le128 (by omega)))
  refine g_iconst C (z := (0 : Int32)) d4_52 (pc' := 53) rfl rfl ?_
  refine g_istore C d4_53 (pc' := 55) rfl (Ls' := #[.val (.ref a), .val (.int e), .val (.ref t), .val (.int (Int32.ofNat s)), .val (.ref vs), .val (.int idx), .val (.int (Int32.ofNat (s + 2))), .val (.int (0 : Int32)), .unset]) rfl ?_
  refine g_iloadN C d4_55 (pc' := 56) rfl rfl ?_
  refine g_istore C d4_56 (pc' := 58) rfl (Ls' := #[.val (.ref a), .val (.int e), .val (.ref t), .val (.int (Int32.ofNat s)), .val (.ref vs), .val (.int idx), .val (.int (Int32.ofNat (s + 2))), .val (.int (0 : Int32)), .val (.int (Int32.ofNat s))]) rfl ?_
  refine g_iload C d4_58 (pc' := 60) rfl rfl ?_
  refine g_iload C d4_60 (pc' := 62) rfl rfl ?_
  refine g_icmp_ge C d4_62 (by decide) (pc' := 144) (by decide) (pcN := 65) rfl (fun q => absurd (n32_lt (by omega) (by omega)) q) (fun _ => ?_)
  refine g_aloadN C d4_65 (pc' := 66) rfl rfl rfl ?_
  refine g_iload C d4_66 (pc' := 68) rfl rfl ?_
  refine g_baload C (v := (.int (F s))) A (n32_nn (by omega)) (n32_lt (n := 128) (by omega) (by omega)) (by show Value.int (F _) = _; rw [n32_nat (by omega)]) d4_68 (pc' := 69) rfl ?_
  refine g_bipush C (z := (48 : Int32)) d4_69 (pc' := 71) rfl rfl ?_
  refine g_icmp_lt C d4_71 (by decide) (pc' := 83) (by decide) (pcN := 74) rfl (fun q => absurd q (own_ge48 hd0)) (fun _ => ?_)
  refine g_aloadN C d4_74 (pc' := 75) rfl rfl rfl ?_
  refine g_iload C d4_75 (pc' := 77) rfl rfl ?_
  refine g_baload C (v := (.int (F s))) A (n32_nn (by omega)) (n32_lt (n := 128) (by omega) (by omega)) (by show Value.int (F _) = _; rw [n32_nat (by omega)]) d4_77 (pc' := 78) rfl ?_
  refine g_bipush C (z := (57 : Int32)) d4_78 (pc' := 80) rfl rfl ?_
  refine g_icmp_le C d4_80 (by decide) (pc' := 123) (by decide) (pcN := 83) rfl (fun _ => ?_) (fun q => absurd q (own_le57 hd0))
  refine g_iload C d4_123 (pc' := 125) rfl rfl ?_
  refine g_bipush C (z := (10 : Int32)) d4_125 (pc' := 127) rfl rfl ?_
  refine g_imul C d4_127 (pc' := 128) rfl ?_
  show Go w l _ n0 _ h0 0 0 128 #[.val (.ref a), .val (.int e), .val (.ref t), .val (.int (Int32.ofNat s)), .val (.ref vs), .val (.int idx), .val (.int (Int32.ofNat (s + 2))), .val (.int (0 : Int32)), .val (.int (Int32.ofNat s))] [(.int (0 : Int32))]
  refine g_aloadN C d4_128 (pc' := 129) rfl rfl rfl ?_
  refine g_iload C d4_129 (pc' := 131) rfl rfl ?_
  refine g_baload C (v := (.int (F s))) A (n32_nn (by omega)) (n32_lt (n := 128) (by omega) (by omega)) (by show Value.int (F _) = _; rw [n32_nat (by omega)]) d4_131 (pc' := 132) rfl ?_
  refine g_iadd C d4_132 (pc' := 133) rfl ?_
  refine g_bipush C (z := (48 : Int32)) d4_133 (pc' := 135) rfl rfl ?_
  refine g_isub C d4_135 (pc' := 136) rfl ?_
  refine g_istore C d4_136 (pc' := 138) rfl (Ls' := #[.val (.ref a), .val (.int e), .val (.ref t), .val (.int (Int32.ofNat s)), .val (.ref vs), .val (.int idx), .val (.int (Int32.ofNat (s + 2))), .val (.int (((0 : Int32) + (F s)) - (48 : Int32))), .val (.int (Int32.ofNat s))]) rfl ?_
  refine g_iinc C d4_138 (pc' := 141) rfl rfl (z := ((Int32.ofNat s) + (1 : Int32))) rfl (Ls' := #[.val (.ref a), .val (.int e), .val (.ref t), .val (.int (Int32.ofNat s)), .val (.ref vs), .val (.int idx), .val (.int (Int32.ofNat (s + 2))), .val (.int (((0 : Int32) + (F s)) - (48 : Int32))), .val (.int ((Int32.ofNat s) + (1 : Int32)))]) rfl ?_
  refine g_goto C d4_141 (by decide) (pc' := 58) (by decide) ?_
  rw [n32_succ]
  show Go w l _ n0 _ h0 0 0 58 #[.val (.ref a), .val (.int e), .val (.ref t), .val (.int (Int32.ofNat s)), .val (.ref vs), .val (.int idx), .val (.int (Int32.ofNat (s + 2))), .val (.int (((0 : Int32) + (F s)) - (48 : Int32))), .val (.int (Int32.ofNat (s + 1)))] []
  refine g_iload C d4_58 (pc' := 60) rfl rfl ?_
  refine g_iload C d4_60 (pc' := 62) rfl rfl ?_
  refine g_icmp_ge C d4_62 (by decide) (pc' := 144) (by decide) (pcN := 65) rfl (fun q => absurd (n32_lt (by omega) (by omega)) q) (fun _ => ?_)
  refine g_aloadN C d4_65 (pc' := 66) rfl rfl rfl ?_
  refine g_iload C d4_66 (pc' := 68) rfl rfl ?_
  refine g_baload C (v := (.int (F (s + 1)))) A (n32_nn (by omega)) (n32_lt (n := 128) (by omega) (by omega)) (by show Value.int (F _) = _; rw [n32_nat (by omega)]) d4_68 (pc' := 69) rfl ?_
  refine g_bipush C (z := (48 : Int32)) d4_69 (pc' := 71) rfl rfl ?_
  refine g_icmp_lt C d4_71 (by decide) (pc' := 83) (by decide) (pcN := 74) rfl (fun q => absurd q (own_ge48 hd1)) (fun _ => ?_)
  refine g_aloadN C d4_74 (pc' := 75) rfl rfl rfl ?_
  refine g_iload C d4_75 (pc' := 77) rfl rfl ?_
  refine g_baload C (v := (.int (F (s + 1)))) A (n32_nn (by omega)) (n32_lt (n := 128) (by omega) (by omega)) (by show Value.int (F _) = _; rw [n32_nat (by omega)]) d4_77 (pc' := 78) rfl ?_
  refine g_bipush C (z := (57 : Int32)) d4_78 (pc' := 80) rfl rfl ?_
  refine g_icmp_le C d4_80 (by decide) (pc' := 123) (by decide) (pcN := 83) rfl (fun _ => ?_) (fun q => absurd q (own_le57 hd1))
  refine g_iload C d4_123 (pc' := 125) rfl rfl ?_
  refine g_bipush C (z := (10 : Int32)) d4_125 (pc' := 127) rfl rfl ?_
  refine g_imul C d4_127 (pc' := 128) rfl ?_
  refine g_aloadN C d4_128 (pc' := 129) rfl rfl rfl ?_
  refine g_iload C d4_129 (pc' := 131) rfl rfl ?_
  refine g_baload C (v := (.int (F (s + 1)))) A (n32_nn (by omega)) (n32_lt (n := 128) (by omega) (by omega)) (by show Value.int (F _) = _; rw [n32_nat (by omega)]) d4_131 (pc' := 132) rfl ?_
  refine g_iadd C d4_132 (pc' := 133) rfl ?_
  refine g_bipush C (z := (48 : Int32)) d4_133 (pc' := 135) rfl rfl ?_
  refine g_isub C d4_135 (pc' := 136) rfl ?_
  refine g_istore C d4_136 (pc' := 138) rfl (Ls' := #[.val (.ref a), .val (.int e), .val (.ref t), .val (.int (Int32.ofNat s)), .val (.ref vs), .val (.int idx), .val (.int (Int32.ofNat (s + 2))), .val (.int ((((((0 : Int32) + (F s)) - (48 : Int32)) * (10 : Int32)) + (F (s + 1))) - (48 : Int32))), .val (.int (Int32.ofNat (s + 1)))]) rfl ?_
  refine g_iinc C d4_138 (pc' := 141) rfl rfl (z := ((Int32.ofNat (s + 1)) + (1 : Int32))) rfl (Ls' := #[.val (.ref a), .val (.int e), .val (.ref t), .val (.int (Int32.ofNat s)), .val (.ref vs), .val (.int idx), .val (.int (Int32.ofNat (s + 2))), .val (.int ((((((0 : Int32) + (F s)) - (48 : Int32)) * (10 : Int32)) + (F (s + 1))) - (48 : Int32))), .val (.int ((Int32.ofNat (s + 1)) + (1 : Int32)))]) rfl ?_
  refine g_goto C d4_141 (by decide) (pc' := 58) (by decide) ?_
  rw [n32_succ]
  show Go w l _ n0 _ h0 0 0 58 #[.val (.ref a), .val (.int e), .val (.ref t), .val (.int (Int32.ofNat s)), .val (.ref vs), .val (.int idx), .val (.int (Int32.ofNat (s + 2))), .val (.int ((((((0 : Int32) + (F s)) - (48 : Int32)) * (10 : Int32)) + (F (s + 1))) - (48 : Int32))), .val (.int (Int32.ofNat (s + 1 + 1)))] []
  refine g_iload C d4_58 (pc' := 60) rfl rfl ?_
  refine g_iload C d4_60 (pc' := 62) rfl rfl ?_
  refine g_icmp_ge C d4_62 (by decide) (pc' := 144) (by decide) (pcN := 65) rfl (fun _ => ?_) (fun q => absurd q (n32_ge (by omega) (by omega)))
  rw [hv]
  show Go w l _ n0 _ h0 0 0 144 #[.val (.ref a), .val (.int e), .val (.ref t), .val (.int (Int32.ofNat s)), .val (.ref vs), .val (.int idx), .val (.int (Int32.ofNat (s + 2))), .val (.int (Int32.ofNat 0)), .val (.int (Int32.ofNat (s + 1 + 1)))] []
  refine g_iload C d4_144 (pc' := 146) rfl rfl ?_
  refine g_aloadN C d4_146 (pc' := 147) rfl rfl rfl ?_
  refine g_getF (host := "") C (Or.inl (hw _ (List.mem_of_getElem? (i := 24) rfl))) Via.refl Fm d4_147 (pc' := 150) rfl ?_
  refine g_icmp_le C d4_150 (by decide) (pc' := 173) (by decide) (pcN := 153) rfl (fun _ => ?_) (fun q => absurd q hM)
  refine g_aloadN C d4_173 (pc' := 174) rfl rfl rfl ?_
  refine g_len C A d4_174 (pc' := 175) rfl ?_
  refine g_iload C d4_175 (pc' := 177) rfl rfl ?_
  refine g_isub C d4_177 (pc' := 178) rfl ?_
  rw [own_sub2 (by omega)]
  show Go w l _ n0 _ h0 0 0 178 #[.val (.ref a), .val (.int e), .val (.ref t), .val (.int (Int32.ofNat s)), .val (.ref vs), .val (.int idx), .val (.int (Int32.ofNat (s + 2))), .val (.int (Int32.ofNat 0)), .val (.int (Int32.ofNat (s + 1 + 1)))] [(.int (Int32.ofNat (128 - (s + 2))))]
  refine g_iload C d4_178 (pc' := 180) rfl rfl ?_
  refine g_icmp_ge C d4_180 (by decide) (pc' := 204) (by decide) (pcN := 183) rfl (fun _ => ?_) (fun q => absurd q (n32_ge (by omega) (by omega)))
  refine g_aload C d4_204 (pc' := 206) rfl rfl rfl ?_
  refine g_iload C d4_206 (pc' := 208) rfl rfl ?_
  refine g_new C (hw _ (List.mem_of_getElem? (i := 33) rfl)) (hw _ (List.mem_of_getElem? (i := 34) rfl)) (hw _ (List.mem_of_getElem? (i := 35) rfl)) d4_208 (pc' := 211) rfl (k' := 1) (n' := 4) rfl rfl (by decide) (by decide) ?_
  intro h72 b72 E72 fb72 gb72 A72 D72
  have ne_a_b72 : a ≠ b72 := Nat.ne_of_lt (Nat.lt_of_lt_of_le Fk.lt fb72)
  have ne_kd_b72 : kd ≠ b72 := Nat.ne_of_lt (Nat.lt_of_lt_of_le Fd.lt fb72)
  have ne_t_b72 : t ≠ b72 := Nat.ne_of_lt (Nat.lt_of_lt_of_le A.lt fb72)
  have ne_vs_b72 : vs ≠ b72 := Nat.ne_of_lt (Nat.lt_of_lt_of_le Vs.lt fb72)
  have ne_cs_b72 : cs ≠ b72 := Nat.ne_of_lt (Nat.lt_of_lt_of_le Ecs.lt fb72)
  have Fk := Fk.ext E72
  have Fm := Fm.ext E72
  have Fd := Fd.ext E72
  have A := A.ext E72
  have Vs := Vs.ext E72
  have X := X.ext E72
  have Ecs := Ecs.ext E72
  have F72_value : Fld Z h72 b72 "java/lang/String" "value" "[B" .null := D72 (Or.inr (hw _ (List.mem_of_getElem? (i := 93) rfl))) (ty := (.array .byte)) (by decide)
  have F72_coder : Fld Z h72 b72 "java/lang/String" "coder" "B" (.int (0 : Int32)) := D72 (Or.inr (hw _ (List.mem_of_getElem? (i := 95) rfl))) (ty := .byte) (by decide)
  refine g_dup C d4_211 (pc' := 212) rfl rfl ?_
  refine g_aloadN C d4_212 (pc' := 213) rfl rfl rfl ?_
  refine g_iload C d4_213 (pc' := 215) rfl rfl ?_
  refine g_iload C d4_215 (pc' := 217) rfl rfl ?_
  refine g_getS (host := "") C (Or.inl (hw _ (List.mem_of_getElem? (i := 36) rfl))) Via.refl (Os.ext X.2) d4_217 (pc' := 220) rfl ?_
  refine g_specialS (rm := R_s_out0) (a := b72) C CW (y := (⟨"java/lang/String", "<init>", "([BIILjava/nio/charset/Charset;)V"⟩ : MethodName)) rfl (hw _ (List.mem_of_getElem? (i := 38) rfl)) (hw _ (List.mem_of_getElem? (i := 39) rfl)) (hw _ (List.mem_of_getElem? (i := 40) rfl)) (by decide) d4_220 (pc' := 223) rfl (argsL := [(.ref t), (.int (Int32.ofNat (s + 2))), (.int (Int32.ofNat 0)), (.ref cs)]) (rest := [(.ref b72), (.int idx), (.ref vs)]) (lenOf pd_14 rfl) rfl (W := 3) (Nat.le_of_eq rfl) rfl (fun hn9 => MetWI.back (rm := R_s_out0) (s_out0 hw b72 cs t (s + 2) F G3 F72_value F72_coder A72 gb72 A (by omega) X Ecs O4 rG3 hh hcw) hn9 C.hZ hI (hw _ (List.mem_of_getElem? (i := 40) rfl)) (hw _ (List.mem_of_getElem? (i := 35) rfl)) (by decide) (by decide)) (k' := 3) (n' := 8) rfl rfl (by decide) (by decide) ?_
  rintro w _ h73 C CW ⟨rfl, Kx, Ex, t2, Fc, Fv, Bx⟩
  have Fk := Fk.keep Kx (ninS ne_a_b72 nin0)
  have Fm := Fm.keep Kx (ninS ne_a_b72 nin0)
  have Fd := Fd.keep Kx (ninS ne_kd_b72 nin0)
  have A := A.keep Kx (ninS ne_t_b72 nin0)
  have Vs := Vs.keep Kx (ninS ne_vs_b72 nin0)
  have X := X.keep Kx (allS gb72 all0)
  have Ecs := Ecs.keep Kx
  have ne_t2_vs : t2 ≠ vs := own_neA Bx Vs
  show Go w l _ n0 _ h73 3 8 223 #[.val (.ref a), .val (.int e), .val (.ref t), .val (.int (Int32.ofNat s)), .val (.ref vs), .val (.int idx), .val (.int (Int32.ofNat (s + 2))), .val (.int (Int32.ofNat 0)), .val (.int (Int32.ofNat (s + 1 + 1)))] [(.ref b72), (.int idx), (.ref vs)]
  refine g_aastore C V Vs hi0 hi4 (Ins.self Ex) d4_223 (pc' := 224) rfl gv (fun h74 W75 Vs' => ?_)
  have A := A.other W75 ne_t_vs
  have X := X.wr W75 gv
  have Ecs := Ecs.wr W75
  have Ex := Ex.wr W75
  have Fc := Fc.other W75 (Or.inl (Ne.symm ne_vs_b72))
  have Fv := Fv.other W75 (Or.inl (Ne.symm ne_vs_b72))
  have Bx := Bx.other W75 ne_t2_vs
  have Vs : Arf Z h74 vs "[Ljava/lang/String;" (.object "java/lang/String") (4 : Int32) (upd (fun _ => .null) idx.toNatClampNeg (.ref b72)) := Vs'
  refine g_iload C d4_224 (pc' := 226) rfl rfl ?_
  refine g_iload C d4_226 (pc' := 228) rfl rfl ?_
  refine g_iadd C d4_228 (pc' := 229) rfl ?_
  exact g_retI C rfl d4_229 ⟨b72, by rw [← Int32.ofNat_add], X, A, Vs, Ex, t2, Fc, Fv, Bx⟩ (by decide) (by decide)
def R_rd3 : Room := ({ frames := 5, cells := 2, slots := 132, locals := 90 } : Room)
set_option maxRecDepth 65536 in
set_option maxHeartbeats 40000000 in
theorem rd3 {l : Launch} {Z : State} {a0 : Array Value} (hw : ∀ d ∈ tables_1, d.before a0 Z = true) {h0 : Heap} {n0 : Nat} (a kd t vs cs u8 iso : Addr) (s N : Nat) (F : Nat → Int32) (M idx e G1 : Int32) (G3 : Value) (Fk : Fld Z h0 a "com/example/longhaul/longhaul/Iso8583AsciiCodec$FieldFormat" "kind" "Lcom/example/longhaul/longhaul/Iso8583AsciiCodec$LengthKind;" (.ref kd)) (Fm : Fld Z h0 a "com/example/longhaul/longhaul/Iso8583AsciiCodec$FieldFormat" "maxLength" "I" (.int M)) (Fd : Fld Z h0 kd "com/example/longhaul/longhaul/Iso8583AsciiCodec$LengthKind" "digits" "I" (.int 3)) (A : Arf Z h0 t "[B" .byte (128 : Int32) (fun j => .int (F j))) (Vs : Arf Z h0 vs "[Ljava/lang/String;" (.object "java/lang/String") (4 : Int32) (fun _ => .null)) (V : OvrN Z "[Ljava/lang/String;" "java/lang/String") (gv : n0 ≤ vs) (ne_t_vs : t ≠ vs) (hi0 : ¬ idx < 0) (hi4 : idx < 4) (hF : own_ok F) (hPN : (s + 3) + N ≤ 128) (O2 : Sta Z Z.heap "java/lang/String" "COMPACT_STRINGS" "Z" (.int G1)) (P5 : ¬ G1 = 0) (Ou : Sta Z Z.heap "sun/nio/cs/UTF_8" "INSTANCE" "Lsun/nio/cs/UTF_8;" (.ref u8)) (Oi : Sta Z Z.heap "sun/nio/cs/ISO_8859_1" "INSTANCE" "Lsun/nio/cs/ISO_8859_1;" (.ref iso)) (Oa : Sta Z Z.heap "sun/nio/cs/US_ASCII" "INSTANCE" "Lsun/nio/cs/US_ASCII;" (.ref cs)) (ne_cs_u8 : cs ≠ u8) (ne_cs_iso : cs ≠ iso) (X : Old Z n0 h0) (Ecs : Exa Z h0 cs "sun/nio/cs/US_ASCII") (O4 : Sta Z Z.heap "jdk/internal/util/Preconditions" "SIOOBE_FORMATTER" "Ljava/util/function/BiFunction;" G3) (rG3 : G3.isRef = true) (Os : Sta Z Z.heap "java/nio/charset/StandardCharsets" "US_ASCII" "Ljava/nio/charset/Charset;" (.ref cs)) (hd0 : 48 ≤ (F s).toInt ∧ (F s).toInt ≤ 57) (hd1 : 48 ≤ (F (s + 1)).toInt ∧ (F (s + 1)).toInt ≤ 57) (hd2 : 48 ≤ (F (s + 1 + 1)).toInt ∧ (F (s + 1 + 1)).toInt ≤ 57) (hv : (((((((((0 : Int32) + (F s)) - (48 : Int32)) * (10 : Int32)) + (F (s + 1))) - (48 : Int32)) * (10 : Int32)) + (F (s + 1 + 1))) - (48 : Int32)) = Int32.ofNat N) (hM : ¬ M < Int32.ofNat N) (h1 : 1 ≤ N) :
    Met l Z (⟨"com/example/longhaul/longhaul/Iso8583AsciiCodec$FieldFormat", "read", "(I[BI[Ljava/lang/String;I)I"⟩ : MethodName) prog_15_method_4_code 9 (some .int) R_rd3 n0 h0 #[(.ref a), (.int e), (.ref t), (.int (Int32.ofNat s)), (.ref vs), (.int idx)] (fun r h => ∃ x : Addr, r = some (.int (Int32.ofNat ((s + 3) + N))) ∧ Old Z n0 h ∧ Arf Z h t "[B" .byte (128 : Int32) (fun j => .int (F j)) ∧ Arf Z h vs "[Ljava/lang/String;" (.object "java/lang/String") (4 : Int32) (upd (fun _ => .null) idx.toNatClampNeg (.ref x)) ∧ own_Str Z h x N (own_sub F (s + 3))) := by
  refine Met.intro (plainFor_of_name (by first | (simp [plainName, overriddenIn, x]; done) | decide +kernel)) (fun mM => (show entryFrame mM #[(.ref a), (.int e), (.ref t), (.int (Int32.ofNat s)), (.ref vs), (.int idx)] 9 = mkF mM 0 #[.val (.ref a), .val (.int e), .val (.ref t), .val (.int (Int32.ofNat s)), .val (.ref vs), .val (.int idx), .unset, .unset, .unset] [] from by first | rfl | (simp [entryFrame, mkF, argsToLocals, Value.category]; done))) (fun w Y C => ?_)
  refine g_iloadN C d4_0 (pc' := 1) rfl rfl ?_
  refine g_istore C d4_1 (pc' := 3) rfl (Ls' := #[.val (.ref a), .val (.int e), .val (.ref t), .val (.int (Int32.ofNat s)), .val (.ref vs), .val (.int idx), .val (.int (Int32.ofNat s)), .unset, .unset]) rfl ?_
  refine g_aloadN C d4_3 (pc' := 4) rfl rfl rfl ?_
  refine g_getF (host := "") C (Or.inl (hw _ (List.mem_of_getElem? (i := 24) rfl))) Via.refl Fm d4_4 (pc' := 7) rfl ?_
  refine g_istore C d4_7 (pc' := 9) rfl (Ls' := #[.val (.ref a), .val (.int e), .val (.ref t), .val (.int (Int32.ofNat s)), .val (.ref vs), .val (.int idx), .val (.int (Int32.ofNat s)), .val (.int M), .unset]) rfl ?_
  refine g_aloadN C d4_9 (pc' := 10) rfl rfl rfl ?_
  refine g_getF (host := "") C (Or.inl (hw _ (List.mem_of_getElem? (i := 22) rfl))) Via.refl Fk d4_10 (pc' := 13) rfl ?_
  refine g_getF C (Or.inr (hw _ (List.mem_of_getElem? (i := 31) rfl))) Via.refl Fd d4_13 (pc' := 16) rfl ?_
  refine g_if_le C d4_16 (by decide) (pc' := 173) (by decide) (pcN := 19) rfl (fun q => absurd q (by decide)) (fun _ => ?_)
  refine g_iload C d4_19 (pc' := 21) rfl rfl ?_
  refine g_aloadN C d4_21 (pc' := 22) rfl rfl rfl ?_
  refine g_getF (host := "") C (Or.inl (hw _ (List.mem_of_getElem? (i := 22) rfl))) Via.refl Fk d4_22 (pc' := 25) rfl ?_
  refine g_getF C (Or.inr (hw _ (List.mem_of_getElem? (i := 31) rfl))) Via.refl Fd d4_25 (pc' := 28) rfl ?_
  refine g_iadd C d4_28 (pc' := 29) rfl ?_
  rw [own_ix (K := (3 : Int32)) (k := 3) rfl]
  show Go w l _ n0 _ h0 0 0 29 #[.val (.ref a), .val (.int e), .val (.ref t), .val (.int (Int32.ofNat s)), .val (.ref vs), .val (.int idx), .val (.int (Int32.ofNat s)), .val (.int M), .unset] [(.int (Int32.ofNat (s + 3)))]
  refine g_istore C d4_29 (pc' := 31) rfl (Ls' := #[.val (.ref a), .val (.int e), .val (.ref t), .val (.int (Int32.ofNat s)), .val (.ref vs), .val (.int idx), .val (.int (Int32.ofNat (s + 3))), .val (.int M), .unset]) rfl ?_
  refine g_iload C d4_31 (pc' := 33) rfl rfl ?_
  refine g_aloadN C d4_33 (pc' := 34) rfl rfl rfl ?_
  refine g_len C A d4_34 (pc' := 35) rfl ?_
  refine g_icmp_le C d4_35 (by decide) (pc' := 52) (by decide) (pcN := 38) rfl (fun _ => ?_) (fun q => absurd q (own_le128 (by omega)))
  refine g_iconst C (z := (0 : Int32)) d4_52 (pc' := 53) rfl rfl ?_
  refine g_istore C d4_53 (pc' := 55) rfl (Ls' := #[.val (.ref a), .val (.int e), .val (.ref t), .val (.int (Int32.ofNat s)), .val (.ref vs), .val (.int idx), .val (.int (Int32.ofNat (s + 3))), .val (.int (0 : Int32)), .unset]) rfl ?_
  refine g_iloadN C d4_55 (pc' := 56) rfl rfl ?_
  refine g_istore C d4_56 (pc' := 58) rfl (Ls' := #[.val (.ref a), .val (.int e), .val (.ref t), .val (.int (Int32.ofNat s)), .val (.ref vs), .val (.int idx), .val (.int (Int32.ofNat (s + 3))), .val (.int (0 : Int32)), .val (.int (Int32.ofNat s))]) rfl ?_
  refine g_iload C d4_58 (pc' := 60) rfl rfl ?_
  refine g_iload C d4_60 (pc' := 62) rfl rfl ?_
  refine g_icmp_ge C d4_62 (by decide) (pc' := 144) (by decide) (pcN := 65) rfl (fun q => absurd (n32_lt (by omega) (by omega)) q) (fun _ => ?_)
  refine g_aloadN C d4_65 (pc' := 66) rfl rfl rfl ?_
  refine g_iload C d4_66 (pc' := 68) rfl rfl ?_
  refine g_baload C (v := (.int (F s))) A (n32_nn (by omega)) (n32_lt (n := 128) (by omega) (by omega)) (by show Value.int (F _) = _; rw [n32_nat (by omega)]) d4_68 (pc' := 69) rfl ?_
  refine g_bipush C (z := (48 : Int32)) d4_69 (pc' := 71) rfl rfl ?_
  refine g_icmp_lt C d4_71 (by decide) (pc' := 83) (by decide) (pcN := 74) rfl (fun q => absurd q (own_ge48 hd0)) (fun _ => ?_)
  refine g_aloadN C d4_74 (pc' := 75) rfl rfl rfl ?_
  refine g_iload C d4_75 (pc' := 77) rfl rfl ?_
  refine g_baload C (v := (.int (F s))) A (n32_nn (by omega)) (n32_lt (n := 128) (by omega) (by omega)) (by show Value.int (F _) = _; rw [n32_nat (by omega)]) d4_77 (pc' := 78) rfl ?_
  refine g_bipush C (z := (57 : Int32)) d4_78 (pc' := 80) rfl rfl ?_
  refine g_icmp_le C d4_80 (by decide) (pc' := 123) (by decide) (pcN := 83) rfl (fun _ => ?_) (fun q => absurd q (own_le57 hd0))
  refine g_iload C d4_123 (pc' := 125) rfl rfl ?_
  refine g_bipush C (z := (10 : Int32)) d4_125 (pc' := 127) rfl rfl ?_
  refine g_imul C d4_127 (pc' := 128) rfl ?_
  show Go w l _ n0 _ h0 0 0 128 #[.val (.ref a), .val (.int e), .val (.ref t), .val (.int (Int32.ofNat s)), .val (.ref vs), .val (.int idx), .val (.int (Int32.ofNat (s + 3))), .val (.int (0 : Int32)), .val (.int (Int32.ofNat s))] [(.int (0 : Int32))]
  refine g_aloadN C d4_128 (pc' := 129) rfl rfl rfl ?_
  refine g_iload C d4_129 (pc' := 131) rfl rfl ?_
  refine g_baload C (v := (.int (F s))) A (n32_nn (by omega)) (n32_lt (n := 128) (by omega) (by omega)) (by show Value.int (F _) = _; rw [n32_nat (by omega)]) d4_131 (pc' := 132) rfl ?_
  refine g_iadd C d4_132 (pc' := 133) rfl ?_
  refine g_bipush C (z := (48 : Int32)) d4_133 (pc' := 135) rfl rfl ?_
  refine g_isub C d4_135 (pc' := 136) rfl ?_
  refine g_istore C d4_136 (pc' := 138) rfl (Ls' := #[.val (.ref a), .val (.int e), .val (.ref t), .val (.int (Int32.ofNat s)), .val (.ref vs), .val (.int idx), .val (.int (Int32.ofNat (s + 3))), .val (.int (((0 : Int32) + (F s)) - (48 : Int32))), .val (.int (Int32.ofNat s))]) rfl ?_
  refine g_iinc C d4_138 (pc' := 141) rfl rfl (z := ((Int32.ofNat s) + (1 : Int32))) rfl (Ls' := #[.val (.ref a), .val (.int e), .val (.ref t), .val (.int (Int32.ofNat s)), .val (.ref vs), .val (.int idx), .val (.int (Int32.ofNat (s + 3))), .val (.int (((0 : Int32) + (F s)) - (48 : Int32))), .val (.int ((Int32.ofNat s) + (1 : Int32)))]) rfl ?_
  refine g_goto C d4_141 (by decide) (pc' := 58) (by decide) ?_
  rw [n32_succ]
  show Go w l _ n0 _ h0 0 0 58 #[.val (.ref a), .val (.int e), .val (.ref t), .val (.int (Int32.ofNat s)), .val (.ref vs), .val (.int idx), .val (.int (Int32.ofNat (s + 3))), .val (.int (((0 : Int32) + (F s)) - (48 : Int32))), .val (.int (Int32.ofNat (s + 1)))] []
  refine g_iload C d4_58 (pc' := 60) rfl rfl ?_
  refine g_iload C d4_60 (pc' := 62) rfl rfl ?_
  refine g_icmp_ge C d4_62 (by decide) (pc' := 144) (by decide) (pcN := 65) rfl (fun q => absurd (n32_lt (by omega) (by omega)) q) (fun _ => ?_)
  refine g_aloadN C d4_65 (pc' := 66) rfl rfl rfl ?_
  refine g_iload C d4_66 (pc' := 68) rfl rfl ?_
  refine g_baload C (v := (.int (F (s + 1)))) A (n32_nn (by omega)) (n32_lt (n := 128) (by omega) (by omega)) (by show Value.int (F _) = _; rw [n32_nat (by omega)]) d4_68 (pc' := 69) rfl ?_
  refine g_bipush C (z := (48 : Int32)) d4_69 (pc' := 71) rfl rfl ?_
  refine g_icmp_lt C d4_71 (by decide) (pc' := 83) (by decide) (pcN := 74) rfl (fun q => absurd q (own_ge48 hd1)) (fun _ => ?_)
  refine g_aloadN C d4_74 (pc' := 75) rfl rfl rfl ?_
  refine g_iload C d4_75 (pc' := 77) rfl rfl ?_
  refine g_baload C (v := (.int (F (s + 1)))) A (n32_nn (by omega)) (n32_lt (n := 128) (by omega) (by omega)) (by show Value.int (F _) = _; rw [n32_nat (by omega)]) d4_77 (pc' := 78) rfl ?_
  refine g_bipush C (z := (57 : Int32)) d4_78 (pc' := 80) rfl rfl ?_
  refine g_icmp_le C d4_80 (by decide) (pc' := 123) (by decide) (pcN := 83) rfl (fun _ => ?_) (fun q => absurd q (own_le57 hd1))
  refine g_iload C d4_123 (pc' := 125) rfl rfl ?_
  refine g_bipush C (z := (10 : Int32)) d4_125 (pc' := 127) rfl rfl ?_
  refine g_imul C d4_127 (pc' := 128) rfl ?_
  refine g_aloadN C d4_128 (pc' := 129) rfl rfl rfl ?_
  refine g_iload C d4_129 (pc' := 131) rfl rfl ?_
  refine g_baload C (v := (.int (F (s + 1)))) A (n32_nn (by omega)) (n32_lt (n := 128) (by omega) (by omega)) (by show Value.int (F _) = _; rw [n32_nat (by omega)]) d4_131 (pc' := 132) rfl ?_
  refine g_iadd C d4_132 (pc' := 133) rfl ?_
  refine g_bipush C (z := (48 : Int32)) d4_133 (pc' := 135) rfl rfl ?_
  refine g_isub C d4_135 (pc' := 136) rfl ?_
  refine g_istore C d4_136 (pc' := 138) rfl (Ls' := #[.val (.ref a), .val (.int e), .val (.ref t), .val (.int (Int32.ofNat s)), .val (.ref vs), .val (.int idx), .val (.int (Int32.ofNat (s + 3))), .val (.int ((((((0 : Int32) + (F s)) - (48 : Int32)) * (10 : Int32)) + (F (s + 1))) - (48 : Int32))), .val (.int (Int32.ofNat (s + 1)))]) rfl ?_
  refine g_iinc C d4_138 (pc' := 141) rfl rfl (z := ((Int32.ofNat (s + 1)) + (1 : Int32))) rfl (Ls' := #[.val (.ref a), .val (.int e), .val (.ref t), .val (.int (Int32.ofNat s)), .val (.ref vs), .val (.int idx), .val (.int (Int32.ofNat (s + 3))), .val (.int ((((((0 : Int32) + (F s)) - (48 : Int32)) * (10 : Int32)) + (F (s + 1))) - (48 : Int32))), .val (.int ((Int32.ofNat (s + 1)) + (1 : Int32)))]) rfl ?_
  refine g_goto C d4_141 (by decide) (pc' := 58) (by decide) ?_
  rw [n32_succ]
  show Go w l _ n0 _ h0 0 0 58 #[.val (.ref a), .val (.int e), .val (.ref t), .val (.int (Int32.ofNat s)), .val (.ref vs), .val (.int idx), .val (.int (Int32.ofNat (s + 3))), .val (.int ((((((0 : Int32) + (F s)) - (48 : Int32)) * (10 : Int32)) + (F (s + 1))) - (48 : Int32))), .val (.int (Int32.ofNat (s + 1 + 1)))] []
  refine g_iload C d4_58 (pc' := 60) rfl rfl ?_
  refine g_iload C d4_60 (pc' := 62) rfl rfl ?_
  refine g_icmp_ge C d4_62 (by decide) (pc' := 144) (by decide) (pcN := 65) rfl (fun q => absurd (n32_lt (by omega) (by omega)) q) (fun _ => ?_)
  refine g_aloadN C d4_65 (pc' := 66) rfl rfl rfl ?_
  refine g_iload C d4_66 (pc' := 68) rfl rfl ?_
  refine g_baload C (v := (.int (F (s + 1 + 1)))) A (n32_nn (by omega)) (n32_lt (n := 128) (by omega) (by omega)) (by show Value.int (F _) = _; rw [n32_nat (by omega)]) d4_68 (pc' := 69) rfl ?_
  refine g_bipush C (z := (48 : Int32)) d4_69 (pc' := 71) rfl rfl ?_
  refine g_icmp_lt C d4_71 (by decide) (pc' := 83) (by decide) (pcN := 74) rfl (fun q => absurd q (own_ge48 hd2)) (fun _ => ?_)
  refine g_aloadN C d4_74 (pc' := 75) rfl rfl rfl ?_
  refine g_iload C d4_75 (pc' := 77) rfl rfl ?_
  refine g_baload C (v := (.int (F (s + 1 + 1)))) A (n32_nn (by omega)) (n32_lt (n := 128) (by omega) (by omega)) (by show Value.int (F _) = _; rw [n32_nat (by omega)]) d4_77 (pc' := 78) rfl ?_
  refine g_bipush C (z := (57 : Int32)) d4_78 (pc' := 80) rfl rfl ?_
  refine g_icmp_le C d4_80 (by decide) (pc' := 123) (by decide) (pcN := 83) rfl (fun _ => ?_) (fun q => absurd q (own_le57 hd2))
  refine g_iload C d4_123 (pc' := 125) rfl rfl ?_
  refine g_bipush C (z := (10 : Int32)) d4_125 (pc' := 127) rfl rfl ?_
  refine g_imul C d4_127 (pc' := 128) rfl ?_
  refine g_aloadN C d4_128 (pc' := 129) rfl rfl rfl ?_
  refine g_iload C d4_129 (pc' := 131) rfl rfl ?_
  refine g_baload C (v := (.int (F (s + 1 + 1)))) A (n32_nn (by omega)) (n32_lt (n := 128) (by omega) (by omega)) (by show Value.int (F _) = _; rw [n32_nat (by omega)]) d4_131 (pc' := 132) rfl ?_
  refine g_iadd C d4_132 (pc' := 133) rfl ?_
  refine g_bipush C (z := (48 : Int32)) d4_133 (pc' := 135) rfl rfl ?_
  refine g_isub C d4_135 (pc' := 136) rfl ?_
  refine g_istore C d4_136 (pc' := 138) rfl (Ls' := #[.val (.ref a), .val (.int e), .val (.ref t), .val (.int (Int32.ofNat s)), .val (.ref vs), .val (.int idx), .val (.int (Int32.ofNat (s + 3))), .val (.int (((((((((0 : Int32) + (F s)) - (48 : Int32)) * (10 : Int32)) + (F (s + 1))) - (48 : Int32)) * (10 : Int32)) + (F (s + 1 + 1))) - (48 : Int32))), .val (.int (Int32.ofNat (s + 1 + 1)))]) rfl ?_
  refine g_iinc C d4_138 (pc' := 141) rfl rfl (z := ((Int32.ofNat (s + 1 + 1)) + (1 : Int32))) rfl (Ls' := #[.val (.ref a), .val (.int e), .val (.ref t), .val (.int (Int32.ofNat s)), .val (.ref vs), .val (.int idx), .val (.int (Int32.ofNat (s + 3))), .val (.int (((((((((0 : Int32) + (F s)) - (48 : Int32)) * (10 : Int32)) + (F (s + 1))) - (48 : Int32)) * (10 : Int32)) + (F (s + 1 + 1))) - (48 : Int32))), .val (.int ((Int32.ofNat (s + 1 + 1)) + (1 : Int32)))]) rfl ?_
  refine g_goto C d4_141 (by decide) (pc' := 58) (by decide) ?_
  rw [n32_succ]
  show Go w l _ n0 _ h0 0 0 58 #[.val (.ref a), .val (.int e), .val (.ref t), .val (.int (Int32.ofNat s)), .val (.ref vs), .val (.int idx), .val (.int (Int32.ofNat (s + 3))), .val (.int (((((((((0 : Int32) + (F s)) - (48 : Int32)) * (10 : Int32)) + (F (s + 1))) - (48 : Int32)) * (10 : Int32)) + (F (s + 1 + 1))) - (48 : Int32))), .val (.int (Int32.ofNat (s + 1 + 1 + 1)))] []
  refine g_iload C d4_58 (pc' := 60) rfl rfl ?_
  refine g_iload C d4_60 (pc' := 62) rfl rfl ?_
  refine g_icmp_ge C d4_62 (by decide) (pc' := 144) (by decide) (pcN := 65) rfl (fun _ => ?_) (fun q => absurd q (n32_ge (by omega) (by omega)))
  rw [hv]
  show Go w l _ n0 _ h0 0 0 144 #[.val (.ref a), .val (.int e), .val (.ref t), .val (.int (Int32.ofNat s)), .val (.ref vs), .val (.int idx), .val (.int (Int32.ofNat (s + 3))), .val (.int (Int32.ofNat N)), .val (.int (Int32.ofNat (s + 1 + 1 + 1)))] []
  refine g_iload C d4_144 (pc' := 146) rfl rfl ?_
  refine g_aloadN C d4_146 (pc' := 147) rfl rfl rfl ?_
  refine g_getF (host := "") C (Or.inl (hw _ (List.mem_of_getElem? (i := 24) rfl))) Via.refl Fm d4_147 (pc' := 150) rfl ?_
  refine g_icmp_le C d4_150 (by decide) (pc' := 173) (by decide) (pcN := 153) rfl (fun _ => ?_) (fun q => absurd q hM)
  refine g_aloadN C d4_173 (pc' := 174) rfl rfl rfl ?_
  refine g_len C A d4_174 (pc' := 175) rfl ?_
  refine g_iload C d4_175 (pc' := 177) rfl rfl ?_
  refine g_isub C d4_177 (pc' := 178) rfl ?_
  rw [own_sub2 (by omega)]
  show Go w l _ n0 _ h0 0 0 178 #[.val (.ref a), .val (.int e), .val (.ref t), .val (.int (Int32.ofNat s)), .val (.ref vs), .val (.int idx), .val (.int (Int32.ofNat (s + 3))), .val (.int (Int32.ofNat N)), .val (.int (Int32.ofNat (s + 1 + 1 + 1)))] [(.int (Int32.ofNat (128 - (s + 3))))]
  refine g_iload C d4_178 (pc' := 180) rfl rfl ?_
  refine g_icmp_ge C d4_180 (by decide) (pc' := 204) (by decide) (pcN := 183) rfl (fun _ => ?_) (fun q => absurd q (n32_ge (by omega) (by omega)))
  refine g_aload C d4_204 (pc' := 206) rfl rfl rfl ?_
  refine g_iload C d4_206 (pc' := 208) rfl rfl ?_
  refine g_new C (hw _ (List.mem_of_getElem? (i := 33) rfl)) (hw _ (List.mem_of_getElem? (i := 34) rfl)) (hw _ (List.mem_of_getElem? (i := 35) rfl)) d4_208 (pc' := 211) rfl (k' := 1) (n' := 4) rfl rfl (by decide) (by decide) ?_
  intro h76 b76 E76 fb76 gb76 A76 D76
  have ne_a_b76 : a ≠ b76 := Nat.ne_of_lt (Nat.lt_of_lt_of_le Fk.lt fb76)
  have ne_kd_b76 : kd ≠ b76 := Nat.ne_of_lt (Nat.lt_of_lt_of_le Fd.lt fb76)
  have ne_t_b76 : t ≠ b76 := Nat.ne_of_lt (Nat.lt_of_lt_of_le A.lt fb76)
  have ne_vs_b76 : vs ≠ b76 := Nat.ne_of_lt (Nat.lt_of_lt_of_le Vs.lt fb76)
  have ne_cs_b76 : cs ≠ b76 := Nat.ne_of_lt (Nat.lt_of_lt_of_le Ecs.lt fb76)
  have Fk := Fk.ext E76
  have Fm := Fm.ext E76
  have Fd := Fd.ext E76
  have A := A.ext E76
  have Vs := Vs.ext E76
  have X := X.ext E76
  have Ecs := Ecs.ext E76
  have F76_value : Fld Z h76 b76 "java/lang/String" "value" "[B" .null := D76 (Or.inr (hw _ (List.mem_of_getElem? (i := 93) rfl))) (ty := (.array .byte)) (by decide)
  have F76_coder : Fld Z h76 b76 "java/lang/String" "coder" "B" (.int (0 : Int32)) := D76 (Or.inr (hw _ (List.mem_of_getElem? (i := 95) rfl))) (ty := .byte) (by decide)
  refine g_dup C d4_211 (pc' := 212) rfl rfl ?_
  refine g_aloadN C d4_212 (pc' := 213) rfl rfl rfl ?_
  refine g_iload C d4_213 (pc' := 215) rfl rfl ?_
  refine g_iload C d4_215 (pc' := 217) rfl rfl ?_
  refine g_getS (host := "") C (Or.inl (hw _ (List.mem_of_getElem? (i := 36) rfl))) Via.refl (Os.ext X.2) d4_217 (pc' := 220) rfl ?_
  refine g_special (rm := R_s_out) (a := b76) C (y := (⟨"java/lang/String", "<init>", "([BIILjava/nio/charset/Charset;)V"⟩ : MethodName)) rfl (hw _ (List.mem_of_getElem? (i := 38) rfl)) (hw _ (List.mem_of_getElem? (i := 39) rfl)) (hw _ (List.mem_of_getElem? (i := 40) rfl)) (by decide) d4_220 (pc' := 223) rfl (argsL := [(.ref t), (.int (Int32.ofNat (s + 3))), (.int (Int32.ofNat N)), (.ref cs)]) (rest := [(.ref b76), (.int idx), (.ref vs)]) (lenOf pd_14 rfl) rfl (W := 3) (Nat.le_of_eq rfl) rfl (fun hn9 => Met.back (rm := R_s_out) (s_out hw b76 cs u8 iso t (s + 3) N F G1 G3 F76_value F76_coder A76 gb76 A hF hPN h1 O2 P5 Ou Oi Oa ne_cs_u8 ne_cs_iso X Ecs O4 rG3) hn9 C.hZ (hw _ (List.mem_of_getElem? (i := 40) rfl)) (hw _ (List.mem_of_getElem? (i := 35) rfl)) (by decide) (by decide)) (k' := 2) (n' := 132) rfl rfl (by decide) (by decide) ?_
  rintro _ h77 ⟨rfl, Kx, Ex, t2, Fc, Fv, Bx⟩
  have Fk := Fk.keep Kx (ninS ne_a_b76 nin0)
  have Fm := Fm.keep Kx (ninS ne_a_b76 nin0)
  have Fd := Fd.keep Kx (ninS ne_kd_b76 nin0)
  have A := A.keep Kx (ninS ne_t_b76 nin0)
  have Vs := Vs.keep Kx (ninS ne_vs_b76 nin0)
  have X := X.keep Kx (allS gb76 all0)
  have Ecs := Ecs.keep Kx
  have ne_t2_vs : t2 ≠ vs := own_neA Bx Vs
  show Go w l _ n0 _ h77 2 132 223 #[.val (.ref a), .val (.int e), .val (.ref t), .val (.int (Int32.ofNat s)), .val (.ref vs), .val (.int idx), .val (.int (Int32.ofNat (s + 3))), .val (.int (Int32.ofNat N)), .val (.int (Int32.ofNat (s + 1 + 1 + 1)))] [(.ref b76), (.int idx), (.ref vs)]
  refine g_aastore C V Vs hi0 hi4 (Ins.self Ex) d4_223 (pc' := 224) rfl gv (fun h78 W79 Vs' => ?_)
  have A := A.other W79 ne_t_vs
  have X := X.wr W79 gv
  have Ecs := Ecs.wr W79
  have Ex := Ex.wr W79
  have Fc := Fc.other W79 (Or.inl (Ne.symm ne_vs_b76))
  have Fv := Fv.other W79 (Or.inl (Ne.symm ne_vs_b76))
  have Bx := Bx.other W79 ne_t2_vs
  have Vs : Arf Z h78 vs "[Ljava/lang/String;" (.object "java/lang/String") (4 : Int32) (upd (fun _ => .null) idx.toNatClampNeg (.ref b76)) := Vs'
  refine g_iload C d4_224 (pc' := 226) rfl rfl ?_
  refine g_iload C d4_226 (pc' := 228) rfl rfl ?_
  refine g_iadd C d4_228 (pc' := 229) rfl ?_
  exact g_retI C rfl d4_229 ⟨b76, by rw [← Int32.ofNat_add], X, A, Vs, Ex, t2, Fc, Fv, Bx⟩ (by decide) (by decide)
def R_rd3z : Room := ({ frames := 3, cells := 3, slots := 8, locals := 53 } : Room)
set_option maxRecDepth 65536 in
set_option maxHeartbeats 40000000 in
theorem rd3z {l : Launch} {Z : State} {a0 : Array Value} (hw : ∀ d ∈ tables_1, d.before a0 Z = true) {h0 : Heap} {n0 : Nat} (a kd t vs cs u8 iso : Addr) (s N : Nat) (F : Nat → Int32) (M idx e G1 : Int32) (G3 : Value) (Fk : Fld Z h0 a "com/example/longhaul/longhaul/Iso8583AsciiCodec$FieldFormat" "kind" "Lcom/example/longhaul/longhaul/Iso8583AsciiCodec$LengthKind;" (.ref kd)) (Fm : Fld Z h0 a "com/example/longhaul/longhaul/Iso8583AsciiCodec$FieldFormat" "maxLength" "I" (.int M)) (Fd : Fld Z h0 kd "com/example/longhaul/longhaul/Iso8583AsciiCodec$LengthKind" "digits" "I" (.int 3)) (A : Arf Z h0 t "[B" .byte (128 : Int32) (fun j => .int (F j))) (Vs : Arf Z h0 vs "[Ljava/lang/String;" (.object "java/lang/String") (4 : Int32) (fun _ => .null)) (V : OvrN Z "[Ljava/lang/String;" "java/lang/String") (gv : n0 ≤ vs) (ne_t_vs : t ≠ vs) (hi0 : ¬ idx < 0) (hi4 : idx < 4) (hF : own_ok F) (hPN : (s + 3) + 0 ≤ 128) (O2 : Sta Z Z.heap "java/lang/String" "COMPACT_STRINGS" "Z" (.int G1)) (P5 : ¬ G1 = 0) (Ou : Sta Z Z.heap "sun/nio/cs/UTF_8" "INSTANCE" "Lsun/nio/cs/UTF_8;" (.ref u8)) (Oi : Sta Z Z.heap "sun/nio/cs/ISO_8859_1" "INSTANCE" "Lsun/nio/cs/ISO_8859_1;" (.ref iso)) (Oa : Sta Z Z.heap "sun/nio/cs/US_ASCII" "INSTANCE" "Lsun/nio/cs/US_ASCII;" (.ref cs)) (ne_cs_u8 : cs ≠ u8) (ne_cs_iso : cs ≠ iso) (X : Old Z n0 h0) (Ecs : Exa Z h0 cs "sun/nio/cs/US_ASCII") (O4 : Sta Z Z.heap "jdk/internal/util/Preconditions" "SIOOBE_FORMATTER" "Ljava/util/function/BiFunction;" G3) (rG3 : G3.isRef = true) (Os : Sta Z Z.heap "java/nio/charset/StandardCharsets" "US_ASCII" "Ljava/nio/charset/Charset;" (.ref cs)) (hd0 : 48 ≤ (F s).toInt ∧ (F s).toInt ≤ 57) (hd1 : 48 ≤ (F (s + 1)).toInt ∧ (F (s + 1)).toInt ≤ 57) (hd2 : 48 ≤ (F (s + 1 + 1)).toInt ∧ (F (s + 1 + 1)).toInt ≤ 57) (hv : (((((((((0 : Int32) + (F s)) - (48 : Int32)) * (10 : Int32)) + (F (s + 1))) - (48 : Int32)) * (10 : Int32)) + (F (s + 1 + 1))) - (48 : Int32)) = Int32.ofNat 0) (hM : ¬ M < Int32.ofNat 0) (hh : Jvm.Lit.constHeld Z "java/lang/String" 7) (hcw : Jvm.Lit.compactW.before a0 Z = true) :
    MetWI l Z (⟨"com/example/longhaul/longhaul/Iso8583AsciiCodec$FieldFormat", "read", "(I[BI[Ljava/lang/String;I)I"⟩ : MethodName) prog_15_method_4_code 9 (some .int) R_rd3z n0 h0 #[(.ref a), (.int e), (.ref t), (.int (Int32.ofNat s)), (.ref vs), (.int idx)] (fun r h => ∃ x : Addr, r = some (.int (Int32.ofNat ((s + 3) + 0))) ∧ Old Z n0 h ∧ Arf Z h t "[B" .byte (128 : Int32) (fun j => .int (F j)) ∧ Arf Z h vs "[Ljava/lang/String;" (.object "java/lang/String") (4 : Int32) (upd (fun _ => .null) idx.toNatClampNeg (.ref x)) ∧ own_Str Z h x 0 (own_sub F (s + 3))) := by
  refine MetWI.intro (plainFor_of_name (by first | (simp [plainName, overriddenIn, x]; done) | decide +kernel)) (fun mM => (show entryFrame mM #[(.ref a), (.int e), (.ref t), (.int (Int32.ofNat s)), (.ref vs), (.int idx)] 9 = mkF mM 0 #[.val (.ref a), .val (.int e), .val (.ref t), .val (.int (Int32.ofNat s)), .val (.ref vs), .val (.int idx), .unset, .unset, .unset] [] from by first | rfl | (simp [entryFrame, mkF, argsToLocals, Value.category]; done))) (fun w Y C CW hH hI => ?_)
  refine g_iloadN C d4_0 (pc' := 1) rfl rfl ?_
  refine g_istore C d4_1 (pc' := 3) rfl (Ls' := #[.val (.ref a), .val (.int e), .val (.ref t), .val (.int (Int32.ofNat s)), .val (.ref vs), .val (.int idx), .val (.int (Int32.ofNat s)), .unset, .unset]) rfl ?_
  refine g_aloadN C d4_3 (pc' := 4) rfl rfl rfl ?_
  refine g_getF (host := "") C (Or.inl (hw _ (List.mem_of_getElem? (i := 24) rfl))) Via.refl Fm d4_4 (pc' := 7) rfl ?_
  refine g_istore C d4_7 (pc' := 9) rfl (Ls' := #[.val (.ref a), .val (.int e), .val (.ref t), .val (.int (Int32.ofNat s)), .val (.ref vs), .val (.int idx), .val (.int (Int32.ofNat s)), .val (.int M), .unset]) rfl ?_
  refine g_aloadN C d4_9 (pc' := 10) rfl rfl rfl ?_
  refine g_getF (host := "") C (Or.inl (hw _ (List.mem_of_getElem? (i := 22) rfl))) Via.refl Fk d4_10 (pc' := 13) rfl ?_
  refine g_getF C (Or.inr (hw _ (List.mem_of_getElem? (i := 31) rfl))) Via.refl Fd d4_13 (pc' := 16) rfl ?_
  refine g_if_le C d4_16 (by decide) (pc' := 173) (by decide) (pcN := 19) rfl (fun q => absurd q (by decide)) (fun _ => ?_)
  refine g_iload C d4_19 (pc' := 21) rfl rfl ?_
  refine g_aloadN C d4_21 (pc' := 22) rfl rfl rfl ?_
  refine g_getF (host := "") C (Or.inl (hw _ (List.mem_of_getElem? (i := 22) rfl))) Via.refl Fk d4_22 (pc' := 25) rfl ?_
  refine g_getF C (Or.inr (hw _ (List.mem_of_getElem? (i := 31) rfl))) Via.refl Fd d4_25 (pc' := 28) rfl ?_
  refine g_iadd C d4_28 (pc' := 29) rfl ?_
  rw [own_ix (K := (3 : Int32)) (k := 3) rfl]
  show Go w l _ n0 _ h0 0 0 29 #[.val (.ref a), .val (.int e), .val (.ref t), .val (.int (Int32.ofNat s)), .val (.ref vs), .val (.int idx), .val (.int (Int32.ofNat s)), .val (.int M), .unset] [(.int (Int32.ofNat (s + 3)))]
  refine g_istore C d4_29 (pc' := 31) rfl (Ls' := #[.val (.ref a), .val (.int e), .val (.ref t), .val (.int (Int32.ofNat s)), .val (.ref vs), .val (.int idx), .val (.int (Int32.ofNat (s + 3))), .val (.int M), .unset]) rfl ?_
  refine g_iload C d4_31 (pc' := 33) rfl rfl ?_
  refine g_aloadN C d4_33 (pc' := 34) rfl rfl rfl ?_
  refine g_len C A d4_34 (pc' := 35) rfl ?_
  refine g_icmp_le C d4_35 (by decide) (pc' := 52) (by decide) (pcN := 38) rfl (fun _ => ?_) (fun q => absurd q (own_le128 (by omega)))
  refine g_iconst C (z := (0 : Int32)) d4_52 (pc' := 53) rfl rfl ?_
  refine g_istore C d4_53 (pc' := 55) rfl (Ls' := #[.val (.ref a), .val (.int e), .val (.ref t), .val (.int (Int32.ofNat s)), .val (.ref vs), .val (.int idx), .val (.int (Int32.ofNat (s + 3))), .val (.int (0 : Int32)), .unset]) rfl ?_
  refine g_iloadN C d4_55 (pc' := 56) rfl rfl ?_
  refine g_istore C d4_56 (pc' := 58) rfl (Ls' := #[.val (.ref a), .val (.int e), .val (.ref t), .val (.int (Int32.ofNat s)), .val (.ref vs), .val (.int idx), .val (.int (Int32.ofNat (s + 3))), .val (.int (0 : Int32)), .val (.int (Int32.ofNat s))]) rfl ?_
  refine g_iload C d4_58 (pc' := 60) rfl rfl ?_
  refine g_iload C d4_60 (pc' := 62) rfl rfl ?_
  refine g_icmp_ge C d4_62 (by decide) (pc' := 144) (by decide) (pcN := 65) rfl (fun q => absurd (n32_lt (by omega) (by omega)) q) (fun _ => ?_)
  refine g_aloadN C d4_65 (pc' := 66) rfl rfl rfl ?_
  refine g_iload C d4_66 (pc' := 68) rfl rfl ?_
  refine g_baload C (v := (.int (F s))) A (n32_nn (by omega)) (n32_lt (n := 128) (by omega) (by omega)) (by show Value.int (F _) = _; rw [n32_nat (by omega)]) d4_68 (pc' := 69) rfl ?_
  refine g_bipush C (z := (48 : Int32)) d4_69 (pc' := 71) rfl rfl ?_
  refine g_icmp_lt C d4_71 (by decide) (pc' := 83) (by decide) (pcN := 74) rfl (fun q => absurd q (own_ge48 hd0)) (fun _ => ?_)
  refine g_aloadN C d4_74 (pc' := 75) rfl rfl rfl ?_
  refine g_iload C d4_75 (pc' := 77) rfl rfl ?_
  refine g_baload C (v := (.int (F s))) A (n32_nn (by omega)) (n32_lt (n := 128) (by omega) (by omega)) (by show Value.int (F _) = _; rw [n32_nat (by omega)]) d4_77 (pc' := 78) rfl ?_
  refine g_bipush C (z := (57 : Int32)) d4_78 (pc' := 80) rfl rfl ?_
  refine g_icmp_le C d4_80 (by decide) (pc' := 123) (by decide) (pcN := 83) rfl (fun _ => ?_) (fun q => absurd q (own_le57 hd0))
  refine g_iload C d4_123 (pc' := 125) rfl rfl ?_
  refine g_bipush C (z := (10 : Int32)) d4_125 (pc' := 127) rfl rfl ?_
  refine g_imul C d4_127 (pc' := 128) rfl ?_
  show Go w l _ n0 _ h0 0 0 128 #[.val (.ref a), .val (.int e), .val (.ref t), .val (.int (Int32.ofNat s)), .val (.ref vs), .val (.int idx), .val (.int (Int32.ofNat (s + 3))), .val (.int (0 : Int32)), .val (.int (Int32.ofNat s))] [(.int (0 : Int32))]
  refine g_aloadN C d4_128 (pc' := 129) rfl rfl rfl ?_
  refine g_iload C d4_129 (pc' := 131) rfl rfl ?_
  refine g_baload C (v := (.int (F s))) A (n32_nn (by omega)) (n32_lt (n := 128) (by omega) (by omega)) (by show Value.int (F _) = _; rw [n32_nat (by omega)]) d4_131 (pc' := 132) rfl ?_
  refine g_iadd C d4_132 (pc' := 133) rfl ?_
  refine g_bipush C (z := (48 : Int32)) d4_133 (pc' := 135) rfl rfl ?_
  refine g_isub C d4_135 (pc' := 136) rfl ?_
  refine g_istore C d4_136 (pc' := 138) rfl (Ls' := #[.val (.ref a), .val (.int e), .val (.ref t), .val (.int (Int32.ofNat s)), .val (.ref vs), .val (.int idx), .val (.int (Int32.ofNat (s + 3))), .val (.int (((0 : Int32) + (F s)) - (48 : Int32))), .val (.int (Int32.ofNat s))]) rfl ?_
  refine g_iinc C d4_138 (pc' := 141) rfl rfl (z := ((Int32.ofNat s) + (1 : Int32))) rfl (Ls' := #[.val (.ref a), .val (.int e), .val (.ref t), .val (.int (Int32.ofNat s)), .val (.ref vs), .val (.int idx), .val (.int (Int32.ofNat (s + 3))), .val (.int (((0 : Int32) + (F s)) - (48 : Int32))), .val (.int ((Int32.ofNat s) + (1 : Int32)))]) rfl ?_
  refine g_goto C d4_141 (by decide) (pc' := 58) (by decide) ?_
  rw [n32_succ]
  show Go w l _ n0 _ h0 0 0 58 #[.val (.ref a), .val (.int e), .val (.ref t), .val (.int (Int32.ofNat s)), .val (.ref vs), .val (.int idx), .val (.int (Int32.ofNat (s + 3))), .val (.int (((0 : Int32) + (F s)) - (48 : Int32))), .val (.int (Int32.ofNat (s + 1)))] []
  refine g_iload C d4_58 (pc' := 60) rfl rfl ?_
  refine g_iload C d4_60 (pc' := 62) rfl rfl ?_
  refine g_icmp_ge C d4_62 (by decide) (pc' := 144) (by decide) (pcN := 65) rfl (fun q => absurd (n32_lt (by omega) (by omega)) q) (fun _ => ?_)
  refine g_aloadN C d4_65 (pc' := 66) rfl rfl rfl ?_
  refine g_iload C d4_66 (pc' := 68) rfl rfl ?_
  refine g_baload C (v := (.int (F (s + 1)))) A (n32_nn (by omega)) (n32_lt (n := 128) (by omega) (by omega)) (by show Value.int (F _) = _; rw [n32_nat (by omega)]) d4_68 (pc' := 69) rfl ?_
  refine g_bipush C (z := (48 : Int32)) d4_69 (pc' := 71) rfl rfl ?_
  refine g_icmp_lt C d4_71 (by decide) (pc' := 83) (by decide) (pcN := 74) rfl (fun q => absurd q (own_ge48 hd1)) (fun _ => ?_)
  refine g_aloadN C d4_74 (pc' := 75) rfl rfl rfl ?_
  refine g_iload C d4_75 (pc' := 77) rfl rfl ?_
  refine g_baload C (v := (.int (F (s + 1)))) A (n32_nn (by omega)) (n32_lt (n := 128) (by omega) (by omega)) (by show Value.int (F _) = _; rw [n32_nat (by omega)]) d4_77 (pc' := 78) rfl ?_
  refine g_bipush C (z := (57 : Int32)) d4_78 (pc' := 80) rfl rfl ?_
  refine g_icmp_le C d4_80 (by decide) (pc' := 123) (by decide) (pcN := 83) rfl (fun _ => ?_) (fun q => absurd q (own_le57 hd1))
  refine g_iload C d4_123 (pc' := 125) rfl rfl ?_
  refine g_bipush C (z := (10 : Int32)) d4_125 (pc' := 127) rfl rfl ?_
  refine g_imul C d4_127 (pc' := 128) rfl ?_
  refine g_aloadN C d4_128 (pc' := 129) rfl rfl rfl ?_
  refine g_iload C d4_129 (pc' := 131) rfl rfl ?_
  refine g_baload C (v := (.int (F (s + 1)))) A (n32_nn (by omega)) (n32_lt (n := 128) (by omega) (by omega)) (by show Value.int (F _) = _; rw [n32_nat (by omega)]) d4_131 (pc' := 132) rfl ?_
  refine g_iadd C d4_132 (pc' := 133) rfl ?_
  refine g_bipush C (z := (48 : Int32)) d4_133 (pc' := 135) rfl rfl ?_
  refine g_isub C d4_135 (pc' := 136) rfl ?_
  refine g_istore C d4_136 (pc' := 138) rfl (Ls' := #[.val (.ref a), .val (.int e), .val (.ref t), .val (.int (Int32.ofNat s)), .val (.ref vs), .val (.int idx), .val (.int (Int32.ofNat (s + 3))), .val (.int ((((((0 : Int32) + (F s)) - (48 : Int32)) * (10 : Int32)) + (F (s + 1))) - (48 : Int32))), .val (.int (Int32.ofNat (s + 1)))]) rfl ?_
  refine g_iinc C d4_138 (pc' := 141) rfl rfl (z := ((Int32.ofNat (s + 1)) + (1 : Int32))) rfl (Ls' := #[.val (.ref a), .val (.int e), .val (.ref t), .val (.int (Int32.ofNat s)), .val (.ref vs), .val (.int idx), .val (.int (Int32.ofNat (s + 3))), .val (.int ((((((0 : Int32) + (F s)) - (48 : Int32)) * (10 : Int32)) + (F (s + 1))) - (48 : Int32))), .val (.int ((Int32.ofNat (s + 1)) + (1 : Int32)))]) rfl ?_
  refine g_goto C d4_141 (by decide) (pc' := 58) (by decide) ?_
  rw [n32_succ]
  show Go w l _ n0 _ h0 0 0 58 #[.val (.ref a), .val (.int e), .val (.ref t), .val (.int (Int32.ofNat s)), .val (.ref vs), .val (.int idx), .val (.int (Int32.ofNat (s + 3))), .val (.int ((((((0 : Int32) + (F s)) - (48 : Int32)) * (10 : Int32)) + (F (s + 1))) - (48 : Int32))), .val (.int (Int32.ofNat (s + 1 + 1)))] []
  refine g_iload C d4_58 (pc' := 60) rfl rfl ?_
  refine g_iload C d4_60 (pc' := 62) rfl rfl ?_
  refine g_icmp_ge C d4_62 (by decide) (pc' := 144) (by decide) (pcN := 65) rfl (fun q => absurd (n32_lt (by omega) (by omega)) q) (fun _ => ?_)
  refine g_aloadN C d4_65 (pc' := 66) rfl rfl rfl ?_
  refine g_iload C d4_66 (pc' := 68) rfl rfl ?_
  refine g_baload C (v := (.int (F (s + 1 + 1)))) A (n32_nn (by omega)) (n32_lt (n := 128) (by omega) (by omega)) (by show Value.int (F _) = _; rw [n32_nat (by omega)]) d4_68 (pc' := 69) rfl ?_
  refine g_bipush C (z := (48 : Int32)) d4_69 (pc' := 71) rfl rfl ?_
  refine g_icmp_lt C d4_71 (by decide) (pc' := 83) (by decide) (pcN := 74) rfl (fun q => absurd q (own_ge48 hd2)) (fun _ => ?_)
  refine g_aloadN C d4_74 (pc' := 75) rfl rfl rfl ?_
  refine g_iload C d4_75 (pc' := 77) rfl rfl ?_
  refine g_baload C (v := (.int (F (s + 1 + 1)))) A (n32_nn (by omega)) (n32_lt (n := 128) (by omega) (by omega)) (by show Value.int (F _) = _; rw [n32_nat (by omega)]) d4_77 (pc' := 78) rfl ?_
  refine g_bipush C (z := (57 : Int32)) d4_78 (pc' := 80) rfl rfl ?_
  refine g_icmp_le C d4_80 (by decide) (pc' := 123) (by decide) (pcN := 83) rfl (fun _ => ?_) (fun q => absurd q (own_le57 hd2))
  refine g_iload C d4_123 (pc' := 125) rfl rfl ?_
  refine g_bipush C (z := (10 : Int32)) d4_125 (pc' := 127) rfl rfl ?_
  refine g_imul C d4_127 (pc' := 128) rfl ?_
  refine g_aloadN C d4_128 (pc' := 129) rfl rfl rfl ?_
  refine g_iload C d4_129 (pc' := 131) rfl rfl ?_
  refine g_baload C (v := (.int (F (s + 1 + 1)))) A (n32_nn (by omega)) (n32_lt (n := 128) (by omega) (by omega)) (by show Value.int (F _) = _; rw [n32_nat (by omega)]) d4_131 (pc' := 132) rfl ?_
  refine g_iadd C d4_132 (pc' := 133) rfl ?_
  refine g_bipush C (z := (48 : Int32)) d4_133 (pc' := 135) rfl rfl ?_
  refine g_isub C d4_135 (pc' := 136) rfl ?_
  refine g_istore C d4_136 (pc' := 138) rfl (Ls' := #[.val (.ref a), .val (.int e), .val (.ref t), .val (.int (Int32.ofNat s)), .val (.ref vs), .val (.int idx), .val (.int (Int32.ofNat (s + 3))), .val (.int (((((((((0 : Int32) + (F s)) - (48 : Int32)) * (10 : Int32)) + (F (s + 1))) - (48 : Int32)) * (10 : Int32)) + (F (s + 1 + 1))) - (48 : Int32))), .val (.int (Int32.ofNat (s + 1 + 1)))]) rfl ?_
  refine g_iinc C d4_138 (pc' := 141) rfl rfl (z := ((Int32.ofNat (s + 1 + 1)) + (1 : Int32))) rfl (Ls' := #[.val (.ref a), .val (.int e), .val (.ref t), .val (.int (Int32.ofNat s)), .val (.ref vs), .val (.int idx), .val (.int (Int32.ofNat (s + 3))), .val (.int (((((((((0 : Int32) + (F s)) - (48 : Int32)) * (10 : Int32)) + (F (s + 1))) - (48 : Int32)) * (10 : Int32)) + (F (s + 1 + 1))) - (48 : Int32))), .val (.int ((Int32.ofNat (s + 1 + 1)) + (1 : Int32)))]) rfl ?_
  refine g_goto C d4_141 (by decide) (pc' := 58) (by decide) ?_
  rw [n32_succ]
  show Go w l _ n0 _ h0 0 0 58 #[.val (.ref a), .val (.int e), .val (.ref t), .val (.int (Int32.ofNat s)), .val (.ref vs), .val (.int idx), .val (.int (Int32.ofNat (s + 3))), .val (.int (((((((((0 : Int32) + (F s)) - (48 : Int32)) * (10 : Int32)) + (F (s + 1))) - (48 : Int32)) * (10 : Int32)) + (F (s + 1 + 1))) - (48 : Int32))), .val (.int (Int32.ofNat (s + 1 + 1 + 1)))] []
  refine g_iload C d4_58 (pc' := 60) rfl rfl ?_
  refine g_iload C d4_60 (pc' := 62) rfl rfl ?_
  refine g_icmp_ge C d4_62 (by decide) (pc' := 144) (by decide) (pcN := 65) rfl (fun _ => ?_) (fun q => absurd q (n32_ge (by omega) (by omega)))
  rw [hv]
  show Go w l _ n0 _ h0 0 0 144 #[.val (.ref a), .val (.int e), .val (.ref t), .val (.int (Int32.ofNat s)), .val (.ref vs), .val (.int idx), .val (.int (Int32.ofNat (s + 3))), .val (.int (Int32.ofNat 0)), .val (.int (Int32.ofNat (s + 1 + 1 + 1)))] []
  refine g_iload C d4_144 (pc' := 146) rfl rfl ?_
  refine g_aloadN C d4_146 (pc' := 147) rfl rfl rfl ?_
  refine g_getF (host := "") C (Or.inl (hw _ (List.mem_of_getElem? (i := 24) rfl))) Via.refl Fm d4_147 (pc' := 150) rfl ?_
  refine g_icmp_le C d4_150 (by decide) (pc' := 173) (by decide) (pcN := 153) rfl (fun _ => ?_) (fun q => absurd q hM)
  refine g_aloadN C d4_173 (pc' := 174) rfl rfl rfl ?_
  refine g_len C A d4_174 (pc' := 175) rfl ?_
  refine g_iload C d4_175 (pc' := 177) rfl rfl ?_
  refine g_isub C d4_177 (pc' := 178) rfl ?_
  rw [own_sub2 (by omega)]
  show Go w l _ n0 _ h0 0 0 178 #[.val (.ref a), .val (.int e), .val (.ref t), .val (.int (Int32.ofNat s)), .val (.ref vs), .val (.int idx), .val (.int (Int32.ofNat (s + 3))), .val (.int (Int32.ofNat 0)), .val (.int (Int32.ofNat (s + 1 + 1 + 1)))] [(.int (Int32.ofNat (128 - (s + 3))))]
  refine g_iload C d4_178 (pc' := 180) rfl rfl ?_
  refine g_icmp_ge C d4_180 (by decide) (pc' := 204) (by decide) (pcN := 183) rfl (fun _ => ?_) (fun q => absurd q (n32_ge (by omega) (by omega)))
  refine g_aload C d4_204 (pc' := 206) rfl rfl rfl ?_
  refine g_iload C d4_206 (pc' := 208) rfl rfl ?_
  refine g_new C (hw _ (List.mem_of_getElem? (i := 33) rfl)) (hw _ (List.mem_of_getElem? (i := 34) rfl)) (hw _ (List.mem_of_getElem? (i := 35) rfl)) d4_208 (pc' := 211) rfl (k' := 1) (n' := 4) rfl rfl (by decide) (by decide) ?_
  intro h80 b80 E80 fb80 gb80 A80 D80
  have ne_a_b80 : a ≠ b80 := Nat.ne_of_lt (Nat.lt_of_lt_of_le Fk.lt fb80)
  have ne_kd_b80 : kd ≠ b80 := Nat.ne_of_lt (Nat.lt_of_lt_of_le Fd.lt fb80)
  have ne_t_b80 : t ≠ b80 := Nat.ne_of_lt (Nat.lt_of_lt_of_le A.lt fb80)
  have ne_vs_b80 : vs ≠ b80 := Nat.ne_of_lt (Nat.lt_of_lt_of_le Vs.lt fb80)
  have ne_cs_b80 : cs ≠ b80 := Nat.ne_of_lt (Nat.lt_of_lt_of_le Ecs.lt fb80)
  have Fk := Fk.ext E80
  have Fm := Fm.ext E80
  have Fd := Fd.ext E80
  have A := A.ext E80
  have Vs := Vs.ext E80
  have X := X.ext E80
  have Ecs := Ecs.ext E80
  have F80_value : Fld Z h80 b80 "java/lang/String" "value" "[B" .null := D80 (Or.inr (hw _ (List.mem_of_getElem? (i := 93) rfl))) (ty := (.array .byte)) (by decide)
  have F80_coder : Fld Z h80 b80 "java/lang/String" "coder" "B" (.int (0 : Int32)) := D80 (Or.inr (hw _ (List.mem_of_getElem? (i := 95) rfl))) (ty := .byte) (by decide)
  refine g_dup C d4_211 (pc' := 212) rfl rfl ?_
  refine g_aloadN C d4_212 (pc' := 213) rfl rfl rfl ?_
  refine g_iload C d4_213 (pc' := 215) rfl rfl ?_
  refine g_iload C d4_215 (pc' := 217) rfl rfl ?_
  refine g_getS (host := "") C (Or.inl (hw _ (List.mem_of_getElem? (i := 36) rfl))) Via.refl (Os.ext X.2) d4_217 (pc' := 220) rfl ?_
  refine g_specialS (rm := R_s_out0) (a := b80) C CW (y := (⟨"java/lang/String", "<init>", "([BIILjava/nio/charset/Charset;)V"⟩ : MethodName)) rfl (hw _ (List.mem_of_getElem? (i := 38) rfl)) (hw _ (List.mem_of_getElem? (i := 39) rfl)) (hw _ (List.mem_of_getElem? (i := 40) rfl)) (by decide) d4_220 (pc' := 223) rfl (argsL := [(.ref t), (.int (Int32.ofNat (s + 3))), (.int (Int32.ofNat 0)), (.ref cs)]) (rest := [(.ref b80), (.int idx), (.ref vs)]) (lenOf pd_14 rfl) rfl (W := 3) (Nat.le_of_eq rfl) rfl (fun hn9 => MetWI.back (rm := R_s_out0) (s_out0 hw b80 cs t (s + 3) F G3 F80_value F80_coder A80 gb80 A (by omega) X Ecs O4 rG3 hh hcw) hn9 C.hZ hI (hw _ (List.mem_of_getElem? (i := 40) rfl)) (hw _ (List.mem_of_getElem? (i := 35) rfl)) (by decide) (by decide)) (k' := 3) (n' := 8) rfl rfl (by decide) (by decide) ?_
  rintro w _ h81 C CW ⟨rfl, Kx, Ex, t2, Fc, Fv, Bx⟩
  have Fk := Fk.keep Kx (ninS ne_a_b80 nin0)
  have Fm := Fm.keep Kx (ninS ne_a_b80 nin0)
  have Fd := Fd.keep Kx (ninS ne_kd_b80 nin0)
  have A := A.keep Kx (ninS ne_t_b80 nin0)
  have Vs := Vs.keep Kx (ninS ne_vs_b80 nin0)
  have X := X.keep Kx (allS gb80 all0)
  have Ecs := Ecs.keep Kx
  have ne_t2_vs : t2 ≠ vs := own_neA Bx Vs
  show Go w l _ n0 _ h81 3 8 223 #[.val (.ref a), .val (.int e), .val (.ref t), .val (.int (Int32.ofNat s)), .val (.ref vs), .val (.int idx), .val (.int (Int32.ofNat (s + 3))), .val (.int (Int32.ofNat 0)), .val (.int (Int32.ofNat (s + 1 + 1 + 1)))] [(.ref b80), (.int idx), (.ref vs)]
  refine g_aastore C V Vs hi0 hi4 (Ins.self Ex) d4_223 (pc' := 224) rfl gv (fun h82 W83 Vs' => ?_)
  have A := A.other W83 ne_t_vs
  have X := X.wr W83 gv
  have Ecs := Ecs.wr W83
  have Ex := Ex.wr W83
  have Fc := Fc.other W83 (Or.inl (Ne.symm ne_vs_b80))
  have Fv := Fv.other W83 (Or.inl (Ne.symm ne_vs_b80))
  have Bx := Bx.other W83 ne_t2_vs
  have Vs : Arf Z h82 vs "[Ljava/lang/String;" (.object "java/lang/String") (4 : Int32) (upd (fun _ => .null) idx.toNatClampNeg (.ref b80)) := Vs'
  refine g_iload C d4_224 (pc' := 226) rfl rfl ?_
  refine g_iload C d4_226 (pc' := 228) rfl rfl ?_
  refine g_iadd C d4_228 (pc' := 229) rfl ?_
  exact g_retI C rfl d4_229 ⟨b80, by rw [← Int32.ofNat_add], X, A, Vs, Ex, t2, Fc, Fv, Bx⟩ (by decide) (by decide)
set_option maxRecDepth 65536 in
set_option maxHeartbeats 40000000 in
theorem e502_0 {l : Launch} {Z : State} {a0 : Array Value} (hw : ∀ d ∈ tables_1, d.before a0 Z = true) {w : Wk} {n0 : Nat} {h0 : Heap} {Y : State → Outcome → Prop} (p0 p1 p2 p3 : Int32) (q4 : Int64) (kx rm sl M idx G1 : Int32) (G3 : Value) (kd bt vs fo x t2 : Addr) (s N m : Nat) (F : Nat → Int32) (C : Cx w Z "com/example/longhaul/longhaul/FieldFormatReadPinLaw" code 24 (some .boolean) "law" room_1 n0 (fun v _ => v = some (.int 1)) Y) (CW : LvW w room_1 n0 (fun v _ => v = some (.int 1)) Y) (A : Arf Z h0 bt "[B" .byte (128 : Int32) (fun j => .int (F j))) (Vs : Arf Z h0 vs "[Ljava/lang/String;" (.object "java/lang/String") (4 : Int32) (upd (fun _ => .null) idx.toNatClampNeg (.ref x))) (E : Exa Z h0 x "java/lang/String") (Fc : Fld Z h0 x "java/lang/String" "coder" "B" (.int 0)) (Fv : Fld Z h0 x "java/lang/String" "value" "[B" (.ref t2)) (B : Arw Z h0 t2 .byte (Int32.ofNat N) (own_sub F s)) (hF : own_ok F) (hPN : s + N ≤ 128) (hi0 : ¬ idx < 0) (O2 : Sta Z Z.heap "java/lang/String" "COMPACT_STRINGS" "Z" (.int G1)) (P5 : ¬ G1 = 0) (X : Old Z n0 h0) (O4 : Sta Z Z.heap "jdk/internal/util/Preconditions" "SIOOBE_FORMATTER" "Ljava/util/function/BiFunction;" G3) (rG3 : G3.isRef = true) (h1 : 1 ≤ N) (hm : m < N) :
    Go w l room_1 n0 Y h0 5 266 502 #[.val (.int p0), .val (.int p1), .val (.int p2), .val (.int p3), .val (.long q4), .second, .val (.int kx), .val (.ref kd), .val (.int (0 : Int32)), .val (.int (128 : Int32)), .val (.int (Int32.ofNat N)), .val (.int rm), .val (.int (Int32.ofNat s)), .val (.int (Int32.ofNat s)), .val (.int sl), .val (.int M), .val (.ref bt), .val (.int (Int32.ofNat m)), .val (.ref vs), .val (.int idx), .val (.ref fo), .val (.int (Int32.ofNat (s + N))), .val (.ref x), .unset] [] := by
  refine g_iconst C (z := (1 : Int32)) at_502 (pc' := 503) rfl rfl ?_
  refine g_goto C at_503 (by decide) (pc' := 507) (by decide) ?_
  refine g_istore C at_507 (pc' := 509) rfl (Ls' := #[.val (.int p0), .val (.int p1), .val (.int p2), .val (.int p3), .val (.long q4), .second, .val (.int kx), .val (.ref kd), .val (.int (0 : Int32)), .val (.int (128 : Int32)), .val (.int (Int32.ofNat N)), .val (.int rm), .val (.int (Int32.ofNat s)), .val (.int (Int32.ofNat s)), .val (.int sl), .val (.int M), .val (.ref bt), .val (.int (Int32.ofNat m)), .val (.ref vs), .val (.int idx), .val (.ref fo), .val (.int (Int32.ofNat (s + N))), .val (.ref x), .val (.int (1 : Int32))]) rfl ?_
  refine g_iload C at_509 (pc' := 511) rfl rfl ?_
  refine g_iload C at_511 (pc' := 513) rfl rfl ?_
  refine g_iload C at_513 (pc' := 515) rfl rfl ?_
  refine g_iadd C at_515 (pc' := 516) rfl ?_
  refine g_icmp_ne C at_516 (by decide) (pc' := 539) (by decide) (pcN := 519) rfl (fun q => absurd (Int32.ofNat_add s N) q) (fun _ => ?_)
  refine g_aload C at_519 (pc' := 521) rfl rfl rfl ?_
  refine g_ifnullN C at_521 (pc' := 524) rfl ?_
  refine g_aload C at_524 (pc' := 526) rfl rfl rfl ?_
  refine g_virtual (rm := R_s_len) (a := x) C (y := (⟨"java/lang/String", "length", "()I"⟩ : MethodName)) (y' := (⟨"java/lang/String", "length", "()I"⟩ : MethodName)) (hw _ (List.mem_of_getElem? (i := 96) rfl)) (hw _ (List.mem_of_getElem? (i := 97) rfl)) (g_nf C (hw _ (List.mem_of_getElem? (i := 99) rfl))) (hw _ (List.mem_of_getElem? (i := 99) rfl)) (hw _ (List.mem_of_getElem? (i := 98) rfl)) (by decide) E at_526 (pc' := 529) rfl (argsL := []) (rest := []) (lenOf pd_15 rfl) rfl (W := 0) (Nat.le_of_eq rfl) rfl (fun hn9 => Met.back (rm := R_s_len) (s_len hw x t2 s N F G1 G3 E Fc Fv B hF hPN O2 P5 X O4 rG3) hn9 C.hZ (hw _ (List.mem_of_getElem? (i := 100) rfl)) (hw _ (List.mem_of_getElem? (i := 35) rfl)) (by decide) (by decide)) (k' := 5) (n' := 266) rfl rfl (by decide) (by decide) ?_
  rintro _ _ ⟨rfl, rfl⟩
  show Go w l _ n0 _ h0 5 266 529 #[.val (.int p0), .val (.int p1), .val (.int p2), .val (.int p3), .val (.long q4), .second, .val (.int kx), .val (.ref kd), .val (.int (0 : Int32)), .val (.int (128 : Int32)), .val (.int (Int32.ofNat N)), .val (.int rm), .val (.int (Int32.ofNat s)), .val (.int (Int32.ofNat s)), .val (.int sl), .val (.int M), .val (.ref bt), .val (.int (Int32.ofNat m)), .val (.ref vs), .val (.int idx), .val (.ref fo), .val (.int (Int32.ofNat (s + N))), .val (.ref x), .val (.int (1 : Int32))] [(.int (Int32.ofNat N))]
  refine g_iload C at_529 (pc' := 531) rfl rfl ?_
  refine g_icmp_ne C at_531 (by decide) (pc' := 539) (by decide) (pcN := 534) rfl (fun q => absurd rfl q) (fun _ => ?_)
  refine g_iload C at_534 (pc' := 536) rfl rfl ?_
  refine g_if_ne C at_536 (by decide) (pc' := 541) (by decide) (pcN := 539) rfl (fun _ => ?_) (fun q => absurd q (by decide))
  refine g_iload C at_541 (pc' := 543) rfl rfl ?_
  refine g_if_ne C at_543 (by decide) (pc' := 548) (by decide) (pcN := 546) rfl (fun _ => ?_) (fun q => absurd q (own_n0 h1 (by omega)))
  refine g_aload C at_548 (pc' := 550) rfl rfl rfl ?_
  refine g_iconst C (z := (0 : Int32)) at_550 (pc' := 551) rfl rfl ?_
  refine g_virtual (rm := R_s_chr) (a := x) C (y := (⟨"java/lang/String", "charAt", "(I)C"⟩ : MethodName)) (y' := (⟨"java/lang/String", "charAt", "(I)C"⟩ : MethodName)) (hw _ (List.mem_of_getElem? (i := 106) rfl)) (hw _ (List.mem_of_getElem? (i := 107) rfl)) (g_nf C (hw _ (List.mem_of_getElem? (i := 109) rfl))) (hw _ (List.mem_of_getElem? (i := 109) rfl)) (hw _ (List.mem_of_getElem? (i := 108) rfl)) (by decide) E at_551 (pc' := 554) rfl (argsL := [(.int (0 : Int32))]) (rest := []) (lenOf pd_16 rfl) rfl (W := 0) (Nat.le_of_eq rfl) rfl (fun hn9 => Met.back (rm := R_s_chr) (s_chr hw x t2 s N F G1 G3 0 E Fc Fv B hF hPN O2 P5 X O4 rG3 (by omega)) hn9 C.hZ (hw _ (List.mem_of_getElem? (i := 110) rfl)) (hw _ (List.mem_of_getElem? (i := 35) rfl)) (by decide) (by decide)) (k' := 5) (n' := 266) rfl rfl (by decide) (by decide) ?_
  rintro _ _ ⟨rfl, rfl⟩
  show Go w l _ n0 _ h0 5 266 554 #[.val (.int p0), .val (.int p1), .val (.int p2), .val (.int p3), .val (.long q4), .second, .val (.int kx), .val (.ref kd), .val (.int (0 : Int32)), .val (.int (128 : Int32)), .val (.int (Int32.ofNat N)), .val (.int rm), .val (.int (Int32.ofNat s)), .val (.int (Int32.ofNat s)), .val (.int sl), .val (.int M), .val (.ref bt), .val (.int (Int32.ofNat m)), .val (.ref vs), .val (.int idx), .val (.ref fo), .val (.int (Int32.ofNat (s + N))), .val (.ref x), .val (.int (1 : Int32))] [(.int (F (s + 0)))]
  refine g_aload C at_554 (pc' := 556) rfl rfl rfl ?_
  refine g_iload C at_556 (pc' := 558) rfl rfl ?_
  refine g_baload C (v := (.int (F s))) A (n32_nn (by omega)) (n32_lt (n := 128) (by omega) (by omega)) (by show Value.int (F _) = _; rw [n32_nat (by omega)]) at_558 (pc' := 559) rfl ?_
  refine g_i2c C at_559 (pc' := 560) rfl ?_
  refine g_icmp_ne C at_560 (by decide) (pc' := 609) (by decide) (pcN := 563) rfl (fun q => absurd (own_nc (hF s (by omega))).symm q) (fun _ => ?_)
  refine g_aload C at_563 (pc' := 565) rfl rfl rfl ?_
  refine g_iload C at_565 (pc' := 567) rfl rfl ?_
  refine g_iconst C (z := (1 : Int32)) at_567 (pc' := 568) rfl rfl ?_
  refine g_isub C at_568 (pc' := 569) rfl ?_
  rw [own_pred h1 (by omega)]
  show Go w l _ n0 _ h0 5 266 569 #[.val (.int p0), .val (.int p1), .val (.int p2), .val (.int p3), .val (.long q4), .second, .val (.int kx), .val (.ref kd), .val (.int (0 : Int32)), .val (.int (128 : Int32)), .val (.int (Int32.ofNat N)), .val (.int rm), .val (.int (Int32.ofNat s)), .val (.int (Int32.ofNat s)), .val (.int sl), .val (.int M), .val (.ref bt), .val (.int (Int32.ofNat m)), .val (.ref vs), .val (.int idx), .val (.ref fo), .val (.int (Int32.ofNat (s + N))), .val (.ref x), .val (.int (1 : Int32))] [(.int (Int32.ofNat (N - 1))), (.ref x)]
  refine g_virtual (rm := R_s_chr) (a := x) C (y := (⟨"java/lang/String", "charAt", "(I)C"⟩ : MethodName)) (y' := (⟨"java/lang/String", "charAt", "(I)C"⟩ : MethodName)) (hw _ (List.mem_of_getElem? (i := 106) rfl)) (hw _ (List.mem_of_getElem? (i := 107) rfl)) (g_nf C (hw _ (List.mem_of_getElem? (i := 109) rfl))) (hw _ (List.mem_of_getElem? (i := 109) rfl)) (hw _ (List.mem_of_getElem? (i := 108) rfl)) (by decide) E at_569 (pc' := 572) rfl (argsL := [(.int (Int32.ofNat (N - 1)))]) (rest := []) (lenOf pd_16 rfl) rfl (W := 0) (Nat.le_of_eq rfl) rfl (fun hn9 => Met.back (rm := R_s_chr) (s_chr hw x t2 s N F G1 G3 (N - 1) E Fc Fv B hF hPN O2 P5 X O4 rG3 (by omega)) hn9 C.hZ (hw _ (List.mem_of_getElem? (i := 110) rfl)) (hw _ (List.mem_of_getElem? (i := 35) rfl)) (by decide) (by decide)) (k' := 5) (n' := 266) rfl rfl (by decide) (by decide) ?_
  rintro _ _ ⟨rfl, rfl⟩
  show Go w l _ n0 _ h0 5 266 572 #[.val (.int p0), .val (.int p1), .val (.int p2), .val (.int p3), .val (.long q4), .second, .val (.int kx), .val (.ref kd), .val (.int (0 : Int32)), .val (.int (128 : Int32)), .val (.int (Int32.ofNat N)), .val (.int rm), .val (.int (Int32.ofNat s)), .val (.int (Int32.ofNat s)), .val (.int sl), .val (.int M), .val (.ref bt), .val (.int (Int32.ofNat m)), .val (.ref vs), .val (.int idx), .val (.ref fo), .val (.int (Int32.ofNat (s + N))), .val (.ref x), .val (.int (1 : Int32))] [(.int (F (s + (N - 1))))]
  refine g_aload C at_572 (pc' := 574) rfl rfl rfl ?_
  refine g_iload C at_574 (pc' := 576) rfl rfl ?_
  refine g_iload C at_576 (pc' := 578) rfl rfl ?_
  refine g_iadd C at_578 (pc' := 579) rfl ?_
  rw [← Int32.ofNat_add]
  show Go w l _ n0 _ h0 5 266 579 #[.val (.int p0), .val (.int p1), .val (.int p2), .val (.int p3), .val (.long q4), .second, .val (.int kx), .val (.ref kd), .val (.int (0 : Int32)), .val (.int (128 : Int32)), .val (.int (Int32.ofNat N)), .val (.int rm), .val (.int (Int32.ofNat s)), .val (.int (Int32.ofNat s)), .val (.int sl), .val (.int M), .val (.ref bt), .val (.int (Int32.ofNat m)), .val (.ref vs), .val (.int idx), .val (.ref fo), .val (.int (Int32.ofNat (s + N))), .val (.ref x), .val (.int (1 : Int32))] [(.int (Int32.ofNat (s + N))), (.ref bt), (.int (F (s + (N - 1))))]
  refine g_iconst C (z := (1 : Int32)) at_579 (pc' := 580) rfl rfl ?_
  refine g_isub C at_580 (pc' := 581) rfl ?_
  rw [own_pred (by omega) (by omega)]
  show Go w l _ n0 _ h0 5 266 581 #[.val (.int p0), .val (.int p1), .val (.int p2), .val (.int p3), .val (.long q4), .second, .val (.int kx), .val (.ref kd), .val (.int (0 : Int32)), .val (.int (128 : Int32)), .val (.int (Int32.ofNat N)), .val (.int rm), .val (.int (Int32.ofNat s)), .val (.int (Int32.ofNat s)), .val (.int sl), .val (.int M), .val (.ref bt), .val (.int (Int32.ofNat m)), .val (.ref vs), .val (.int idx), .val (.ref fo), .val (.int (Int32.ofNat (s + N))), .val (.ref x), .val (.int (1 : Int32))] [(.int (Int32.ofNat (s + N - 1))), (.ref bt), (.int (F (s + (N - 1))))]
  refine g_baload C (v := (.int (F (s + N - 1)))) A (n32_nn (by omega)) (n32_lt (n := 128) (by omega) (by omega)) (by show Value.int (F _) = _; rw [n32_nat (by omega)]) at_581 (pc' := 582) rfl ?_
  refine g_i2c C at_582 (pc' := 583) rfl ?_
  refine g_icmp_ne C at_583 (by decide) (pc' := 609) (by decide) (pcN := 586) rfl (fun q => absurd (by rw [own_nc (hF _ (by omega)), show s + (N - 1) = s + N - 1 by omega]) q) (fun _ => ?_)
  refine g_aload C at_586 (pc' := 588) rfl rfl rfl ?_
  refine g_iload C at_588 (pc' := 590) rfl rfl ?_
  refine g_virtual (rm := R_s_chr) (a := x) C (y := (⟨"java/lang/String", "charAt", "(I)C"⟩ : MethodName)) (y' := (⟨"java/lang/String", "charAt", "(I)C"⟩ : MethodName)) (hw _ (List.mem_of_getElem? (i := 106) rfl)) (hw _ (List.mem_of_getElem? (i := 107) rfl)) (g_nf C (hw _ (List.mem_of_getElem? (i := 109) rfl))) (hw _ (List.mem_of_getElem? (i := 109) rfl)) (hw _ (List.mem_of_getElem? (i := 108) rfl)) (by decide) E at_590 (pc' := 593) rfl (argsL := [(.int (Int32.ofNat m))]) (rest := []) (lenOf pd_16 rfl) rfl (W := 0) (Nat.le_of_eq rfl) rfl (fun hn9 => Met.back (rm := R_s_chr) (s_chr hw x t2 s N F G1 G3 m E Fc Fv B hF hPN O2 P5 X O4 rG3 (by omega)) hn9 C.hZ (hw _ (List.mem_of_getElem? (i := 110) rfl)) (hw _ (List.mem_of_getElem? (i := 35) rfl)) (by decide) (by decide)) (k' := 5) (n' := 266) rfl rfl (by decide) (by decide) ?_
  rintro _ _ ⟨rfl, rfl⟩
  show Go w l _ n0 _ h0 5 266 593 #[.val (.int p0), .val (.int p1), .val (.int p2), .val (.int p3), .val (.long q4), .second, .val (.int kx), .val (.ref kd), .val (.int (0 : Int32)), .val (.int (128 : Int32)), .val (.int (Int32.ofNat N)), .val (.int rm), .val (.int (Int32.ofNat s)), .val (.int (Int32.ofNat s)), .val (.int sl), .val (.int M), .val (.ref bt), .val (.int (Int32.ofNat m)), .val (.ref vs), .val (.int idx), .val (.ref fo), .val (.int (Int32.ofNat (s + N))), .val (.ref x), .val (.int (1 : Int32))] [(.int (F (s + m)))]
  refine g_aload C at_593 (pc' := 595) rfl rfl rfl ?_
  refine g_iload C at_595 (pc' := 597) rfl rfl ?_
  refine g_iload C at_597 (pc' := 599) rfl rfl ?_
  refine g_iadd C at_599 (pc' := 600) rfl ?_
  rw [← Int32.ofNat_add]
  show Go w l _ n0 _ h0 5 266 600 #[.val (.int p0), .val (.int p1), .val (.int p2), .val (.int p3), .val (.long q4), .second, .val (.int kx), .val (.ref kd), .val (.int (0 : Int32)), .val (.int (128 : Int32)), .val (.int (Int32.ofNat N)), .val (.int rm), .val (.int (Int32.ofNat s)), .val (.int (Int32.ofNat s)), .val (.int sl), .val (.int M), .val (.ref bt), .val (.int (Int32.ofNat m)), .val (.ref vs), .val (.int idx), .val (.ref fo), .val (.int (Int32.ofNat (s + N))), .val (.ref x), .val (.int (1 : Int32))] [(.int (Int32.ofNat (s + m))), (.ref bt), (.int (F (s + m)))]
  refine g_baload C (v := (.int (F (s + m)))) A (n32_nn (by omega)) (n32_lt (n := 128) (by omega) (by omega)) (by show Value.int (F _) = _; rw [n32_nat (by omega)]) at_600 (pc' := 601) rfl ?_
  refine g_i2c C at_601 (pc' := 602) rfl ?_
  refine g_icmp_ne C at_602 (by decide) (pc' := 609) (by decide) (pcN := 605) rfl (fun q => absurd (own_nc (hF (s + m) (by omega))).symm q) (fun _ => ?_)
  refine g_iconst C (z := (1 : Int32)) at_605 (pc' := 606) rfl rfl ?_
  refine g_goto C at_606 (by decide) (pc' := 610) (by decide) ?_
  exact g_retN C (t := .boolean) rfl (by simp) at_610 rfl (by decide) (by decide)
set_option maxRecDepth 65536 in
set_option maxHeartbeats 40000000 in
theorem e489_0 {l : Launch} {Z : State} {a0 : Array Value} (hw : ∀ d ∈ tables_1, d.before a0 Z = true) {w : Wk} {n0 : Nat} {h0 : Heap} {Y : State → Outcome → Prop} (p0 p1 p2 p3 : Int32) (q4 : Int64) (kx rm sl M idx G1 : Int32) (G3 : Value) (kd bt vs fo x t2 : Addr) (s N m : Nat) (F : Nat → Int32) (C : Cx w Z "com/example/longhaul/longhaul/FieldFormatReadPinLaw" code 24 (some .boolean) "law" room_1 n0 (fun v _ => v = some (.int 1)) Y) (CW : LvW w room_1 n0 (fun v _ => v = some (.int 1)) Y) (A : Arf Z h0 bt "[B" .byte (128 : Int32) (fun j => .int (F j))) (Vs : Arf Z h0 vs "[Ljava/lang/String;" (.object "java/lang/String") (4 : Int32) (upd (fun _ => .null) idx.toNatClampNeg (.ref x))) (E : Exa Z h0 x "java/lang/String") (Fc : Fld Z h0 x "java/lang/String" "coder" "B" (.int 0)) (Fv : Fld Z h0 x "java/lang/String" "value" "[B" (.ref t2)) (B : Arw Z h0 t2 .byte (Int32.ofNat N) (own_sub F s)) (hF : own_ok F) (hPN : s + N ≤ 128) (hi0 : ¬ idx < 0) (O2 : Sta Z Z.heap "java/lang/String" "COMPACT_STRINGS" "Z" (.int G1)) (P5 : ¬ G1 = 0) (X : Old Z n0 h0) (O4 : Sta Z Z.heap "jdk/internal/util/Preconditions" "SIOOBE_FORMATTER" "Ljava/util/function/BiFunction;" G3) (rG3 : G3.isRef = true) (h1 : 1 ≤ N) (hm : m < N) :
    Go w l room_1 n0 Y h0 5 266 489 #[.val (.int p0), .val (.int p1), .val (.int p2), .val (.int p3), .val (.long q4), .second, .val (.int kx), .val (.ref kd), .val (.int (0 : Int32)), .val (.int (128 : Int32)), .val (.int (Int32.ofNat N)), .val (.int rm), .val (.int (Int32.ofNat s)), .val (.int (Int32.ofNat s)), .val (.int sl), .val (.int M), .val (.ref bt), .val (.int (Int32.ofNat m)), .val (.ref vs), .val (.int idx), .val (.ref fo), .val (.int (Int32.ofNat (s + N))), .val (.ref x), .unset] [] := by
  refine g_iload C at_489 (pc' := 491) rfl rfl ?_
  refine g_iconst C (z := (3 : Int32)) at_491 (pc' := 492) rfl rfl ?_
  refine g_icmp_eq C at_492 (by decide) (pc' := 502) (by decide) (pcN := 495) rfl (fun q492 => ?_) (fun q492 => ?_)
  · exact e502_0 (C := C) hw p0 p1 p2 p3 q4 kx rm sl M idx G1 G3 kd bt vs fo x t2 s N m F CW A Vs E Fc Fv B hF hPN hi0 O2 P5 X O4 rG3 h1 hm
  · refine g_aload C at_495 (pc' := 497) rfl rfl rfl ?_
    refine g_iconst C (z := (3 : Int32)) at_497 (pc' := 498) rfl rfl ?_
    refine g_aaload C rfl (v := .null) Vs (by decide) (by decide) (own_rdv (j := 3) hi0 (3 : Int32) rfl q492) at_498 (pc' := 499) rfl ?_
    refine g_ifnonnullN C at_499 (pc' := 502) rfl ?_
    exact e502_0 (C := C) hw p0 p1 p2 p3 q4 kx rm sl M idx G1 G3 kd bt vs fo x t2 s N m F CW A Vs E Fc Fv B hF hPN hi0 O2 P5 X O4 rG3 h1 hm
set_option maxRecDepth 65536 in
set_option maxHeartbeats 40000000 in
theorem e476_0 {l : Launch} {Z : State} {a0 : Array Value} (hw : ∀ d ∈ tables_1, d.before a0 Z = true) {w : Wk} {n0 : Nat} {h0 : Heap} {Y : State → Outcome → Prop} (p0 p1 p2 p3 : Int32) (q4 : Int64) (kx rm sl M idx G1 : Int32) (G3 : Value) (kd bt vs fo x t2 : Addr) (s N m : Nat) (F : Nat → Int32) (C : Cx w Z "com/example/longhaul/longhaul/FieldFormatReadPinLaw" code 24 (some .boolean) "law" room_1 n0 (fun v _ => v = some (.int 1)) Y) (CW : LvW w room_1 n0 (fun v _ => v = some (.int 1)) Y) (A : Arf Z h0 bt "[B" .byte (128 : Int32) (fun j => .int (F j))) (Vs : Arf Z h0 vs "[Ljava/lang/String;" (.object "java/lang/String") (4 : Int32) (upd (fun _ => .null) idx.toNatClampNeg (.ref x))) (E : Exa Z h0 x "java/lang/String") (Fc : Fld Z h0 x "java/lang/String" "coder" "B" (.int 0)) (Fv : Fld Z h0 x "java/lang/String" "value" "[B" (.ref t2)) (B : Arw Z h0 t2 .byte (Int32.ofNat N) (own_sub F s)) (hF : own_ok F) (hPN : s + N ≤ 128) (hi0 : ¬ idx < 0) (O2 : Sta Z Z.heap "java/lang/String" "COMPACT_STRINGS" "Z" (.int G1)) (P5 : ¬ G1 = 0) (X : Old Z n0 h0) (O4 : Sta Z Z.heap "jdk/internal/util/Preconditions" "SIOOBE_FORMATTER" "Ljava/util/function/BiFunction;" G3) (rG3 : G3.isRef = true) (h1 : 1 ≤ N) (hm : m < N) :
    Go w l room_1 n0 Y h0 5 266 476 #[.val (.int p0), .val (.int p1), .val (.int p2), .val (.int p3), .val (.long q4), .second, .val (.int kx), .val (.ref kd), .val (.int (0 : Int32)), .val (.int (128 : Int32)), .val (.int (Int32.ofNat N)), .val (.int rm), .val (.int (Int32.ofNat s)), .val (.int (Int32.ofNat s)), .val (.int sl), .val (.int M), .val (.ref bt), .val (.int (Int32.ofNat m)), .val (.ref vs), .val (.int idx), .val (.ref fo), .val (.int (Int32.ofNat (s + N))), .val (.ref x), .unset] [] := by
  refine g_iload C at_476 (pc' := 478) rfl rfl ?_
  refine g_iconst C (z := (2 : Int32)) at_478 (pc' := 479) rfl rfl ?_
  refine g_icmp_eq C at_479 (by decide) (pc' := 489) (by decide) (pcN := 482) rfl (fun q479 => ?_) (fun q479 => ?_)
  · exact e489_0 (C := C) hw p0 p1 p2 p3 q4 kx rm sl M idx G1 G3 kd bt vs fo x t2 s N m F CW A Vs E Fc Fv B hF hPN hi0 O2 P5 X O4 rG3 h1 hm
  · refine g_aload C at_482 (pc' := 484) rfl rfl rfl ?_
    refine g_iconst C (z := (2 : Int32)) at_484 (pc' := 485) rfl rfl ?_
    refine g_aaload C rfl (v := .null) Vs (by decide) (by decide) (own_rdv (j := 2) hi0 (2 : Int32) rfl q479) at_485 (pc' := 486) rfl ?_
    refine g_ifnonnullN C at_486 (pc' := 489) rfl ?_
    exact e489_0 (C := C) hw p0 p1 p2 p3 q4 kx rm sl M idx G1 G3 kd bt vs fo x t2 s N m F CW A Vs E Fc Fv B hF hPN hi0 O2 P5 X O4 rG3 h1 hm
set_option maxRecDepth 65536 in
set_option maxHeartbeats 40000000 in
theorem e463_0 {l : Launch} {Z : State} {a0 : Array Value} (hw : ∀ d ∈ tables_1, d.before a0 Z = true) {w : Wk} {n0 : Nat} {h0 : Heap} {Y : State → Outcome → Prop} (p0 p1 p2 p3 : Int32) (q4 : Int64) (kx rm sl M idx G1 : Int32) (G3 : Value) (kd bt vs fo x t2 : Addr) (s N m : Nat) (F : Nat → Int32) (C : Cx w Z "com/example/longhaul/longhaul/FieldFormatReadPinLaw" code 24 (some .boolean) "law" room_1 n0 (fun v _ => v = some (.int 1)) Y) (CW : LvW w room_1 n0 (fun v _ => v = some (.int 1)) Y) (A : Arf Z h0 bt "[B" .byte (128 : Int32) (fun j => .int (F j))) (Vs : Arf Z h0 vs "[Ljava/lang/String;" (.object "java/lang/String") (4 : Int32) (upd (fun _ => .null) idx.toNatClampNeg (.ref x))) (E : Exa Z h0 x "java/lang/String") (Fc : Fld Z h0 x "java/lang/String" "coder" "B" (.int 0)) (Fv : Fld Z h0 x "java/lang/String" "value" "[B" (.ref t2)) (B : Arw Z h0 t2 .byte (Int32.ofNat N) (own_sub F s)) (hF : own_ok F) (hPN : s + N ≤ 128) (hi0 : ¬ idx < 0) (O2 : Sta Z Z.heap "java/lang/String" "COMPACT_STRINGS" "Z" (.int G1)) (P5 : ¬ G1 = 0) (X : Old Z n0 h0) (O4 : Sta Z Z.heap "jdk/internal/util/Preconditions" "SIOOBE_FORMATTER" "Ljava/util/function/BiFunction;" G3) (rG3 : G3.isRef = true) (h1 : 1 ≤ N) (hm : m < N) :
    Go w l room_1 n0 Y h0 5 266 463 #[.val (.int p0), .val (.int p1), .val (.int p2), .val (.int p3), .val (.long q4), .second, .val (.int kx), .val (.ref kd), .val (.int (0 : Int32)), .val (.int (128 : Int32)), .val (.int (Int32.ofNat N)), .val (.int rm), .val (.int (Int32.ofNat s)), .val (.int (Int32.ofNat s)), .val (.int sl), .val (.int M), .val (.ref bt), .val (.int (Int32.ofNat m)), .val (.ref vs), .val (.int idx), .val (.ref fo), .val (.int (Int32.ofNat (s + N))), .val (.ref x), .unset] [] := by
  refine g_iload C at_463 (pc' := 465) rfl rfl ?_
  refine g_iconst C (z := (1 : Int32)) at_465 (pc' := 466) rfl rfl ?_
  refine g_icmp_eq C at_466 (by decide) (pc' := 476) (by decide) (pcN := 469) rfl (fun q466 => ?_) (fun q466 => ?_)
  · exact e476_0 (C := C) hw p0 p1 p2 p3 q4 kx rm sl M idx G1 G3 kd bt vs fo x t2 s N m F CW A Vs E Fc Fv B hF hPN hi0 O2 P5 X O4 rG3 h1 hm
  · refine g_aload C at_469 (pc' := 471) rfl rfl rfl ?_
    refine g_iconst C (z := (1 : Int32)) at_471 (pc' := 472) rfl rfl ?_
    refine g_aaload C rfl (v := .null) Vs (by decide) (by decide) (own_rdv (j := 1) hi0 (1 : Int32) rfl q466) at_472 (pc' := 473) rfl ?_
    refine g_ifnonnullN C at_473 (pc' := 476) rfl ?_
    exact e476_0 (C := C) hw p0 p1 p2 p3 q4 kx rm sl M idx G1 G3 kd bt vs fo x t2 s N m F CW A Vs E Fc Fv B hF hPN hi0 O2 P5 X O4 rG3 h1 hm
set_option maxRecDepth 65536 in
set_option maxHeartbeats 40000000 in
theorem e451_0 {l : Launch} {Z : State} {a0 : Array Value} (hw : ∀ d ∈ tables_1, d.before a0 Z = true) {w : Wk} {n0 : Nat} {h0 : Heap} {Y : State → Outcome → Prop} (p0 p1 p2 p3 : Int32) (q4 : Int64) (kx rm sl M idx G1 : Int32) (G3 : Value) (kd bt vs fo x t2 : Addr) (s N m : Nat) (F : Nat → Int32) (C : Cx w Z "com/example/longhaul/longhaul/FieldFormatReadPinLaw" code 24 (some .boolean) "law" room_1 n0 (fun v _ => v = some (.int 1)) Y) (CW : LvW w room_1 n0 (fun v _ => v = some (.int 1)) Y) (A : Arf Z h0 bt "[B" .byte (128 : Int32) (fun j => .int (F j))) (Vs : Arf Z h0 vs "[Ljava/lang/String;" (.object "java/lang/String") (4 : Int32) (upd (fun _ => .null) idx.toNatClampNeg (.ref x))) (E : Exa Z h0 x "java/lang/String") (Fc : Fld Z h0 x "java/lang/String" "coder" "B" (.int 0)) (Fv : Fld Z h0 x "java/lang/String" "value" "[B" (.ref t2)) (B : Arw Z h0 t2 .byte (Int32.ofNat N) (own_sub F s)) (hF : own_ok F) (hPN : s + N ≤ 128) (hi0 : ¬ idx < 0) (O2 : Sta Z Z.heap "java/lang/String" "COMPACT_STRINGS" "Z" (.int G1)) (P5 : ¬ G1 = 0) (X : Old Z n0 h0) (O4 : Sta Z Z.heap "jdk/internal/util/Preconditions" "SIOOBE_FORMATTER" "Ljava/util/function/BiFunction;" G3) (rG3 : G3.isRef = true) (h1 : 1 ≤ N) (hm : m < N) :
    Go w l room_1 n0 Y h0 5 266 451 #[.val (.int p0), .val (.int p1), .val (.int p2), .val (.int p3), .val (.long q4), .second, .val (.int kx), .val (.ref kd), .val (.int (0 : Int32)), .val (.int (128 : Int32)), .val (.int (Int32.ofNat N)), .val (.int rm), .val (.int (Int32.ofNat s)), .val (.int (Int32.ofNat s)), .val (.int sl), .val (.int M), .val (.ref bt), .val (.int (Int32.ofNat m)), .val (.ref vs), .val (.int idx), .val (.ref fo), .val (.int (Int32.ofNat (s + N))), .val (.ref x), .unset] [] := by
  refine g_iload C at_451 (pc' := 453) rfl rfl ?_
  refine g_if_eq C at_453 (by decide) (pc' := 463) (by decide) (pcN := 456) rfl (fun q453 => ?_) (fun q453 => ?_)
  · exact e463_0 (C := C) hw p0 p1 p2 p3 q4 kx rm sl M idx G1 G3 kd bt vs fo x t2 s N m F CW A Vs E Fc Fv B hF hPN hi0 O2 P5 X O4 rG3 h1 hm
  · refine g_aload C at_456 (pc' := 458) rfl rfl rfl ?_
    refine g_iconst C (z := (0 : Int32)) at_458 (pc' := 459) rfl rfl ?_
    refine g_aaload C rfl (v := .null) Vs (by decide) (by decide) (own_rdv (j := 0) hi0 (0 : Int32) rfl q453) at_459 (pc' := 460) rfl ?_
    refine g_ifnonnullN C at_460 (pc' := 463) rfl ?_
    exact e463_0 (C := C) hw p0 p1 p2 p3 q4 kx rm sl M idx G1 G3 kd bt vs fo x t2 s N m F CW A Vs E Fc Fv B hF hPN hi0 O2 P5 X O4 rG3 h1 hm
set_option maxRecDepth 65536 in
set_option maxHeartbeats 40000000 in
theorem e502_0z {l : Launch} {Z : State} {a0 : Array Value} (hw : ∀ d ∈ tables_1, d.before a0 Z = true) {w : Wk} {n0 : Nat} {h0 : Heap} {Y : State → Outcome → Prop} (p0 p1 p2 p3 : Int32) (q4 : Int64) (kx rm sl M idx G1 : Int32) (G3 : Value) (kd bt vs fo x t2 : Addr) (s N m : Nat) (F : Nat → Int32) (C : Cx w Z "com/example/longhaul/longhaul/FieldFormatReadPinLaw" code 24 (some .boolean) "law" room_1 n0 (fun v _ => v = some (.int 1)) Y) (CW : LvW w room_1 n0 (fun v _ => v = some (.int 1)) Y) (A : Arf Z h0 bt "[B" .byte (128 : Int32) (fun j => .int (F j))) (Vs : Arf Z h0 vs "[Ljava/lang/String;" (.object "java/lang/String") (4 : Int32) (upd (fun _ => .null) idx.toNatClampNeg (.ref x))) (E : Exa Z h0 x "java/lang/String") (Fc : Fld Z h0 x "java/lang/String" "coder" "B" (.int 0)) (Fv : Fld Z h0 x "java/lang/String" "value" "[B" (.ref t2)) (B : Arw Z h0 t2 .byte (Int32.ofNat 0) (own_sub F s)) (hF : own_ok F) (hPN : s + 0 ≤ 128) (hi0 : ¬ idx < 0) (O2 : Sta Z Z.heap "java/lang/String" "COMPACT_STRINGS" "Z" (.int G1)) (P5 : ¬ G1 = 0) (X : Old Z n0 h0) (O4 : Sta Z Z.heap "jdk/internal/util/Preconditions" "SIOOBE_FORMATTER" "Ljava/util/function/BiFunction;" G3) (rG3 : G3.isRef = true) :
    Go w l room_1 n0 Y h0 6 142 502 #[.val (.int p0), .val (.int p1), .val (.int p2), .val (.int p3), .val (.long q4), .second, .val (.int kx), .val (.ref kd), .val (.int (0 : Int32)), .val (.int (128 : Int32)), .val (.int (Int32.ofNat 0)), .val (.int rm), .val (.int (Int32.ofNat s)), .val (.int (Int32.ofNat s)), .val (.int sl), .val (.int M), .val (.ref bt), .val (.int (Int32.ofNat m)), .val (.ref vs), .val (.int idx), .val (.ref fo), .val (.int (Int32.ofNat (s + 0))), .val (.ref x), .unset] [] := by
  refine g_iconst C (z := (1 : Int32)) at_502 (pc' := 503) rfl rfl ?_
  refine g_goto C at_503 (by decide) (pc' := 507) (by decide) ?_
  refine g_istore C at_507 (pc' := 509) rfl (Ls' := #[.val (.int p0), .val (.int p1), .val (.int p2), .val (.int p3), .val (.long q4), .second, .val (.int kx), .val (.ref kd), .val (.int (0 : Int32)), .val (.int (128 : Int32)), .val (.int (Int32.ofNat 0)), .val (.int rm), .val (.int (Int32.ofNat s)), .val (.int (Int32.ofNat s)), .val (.int sl), .val (.int M), .val (.ref bt), .val (.int (Int32.ofNat m)), .val (.ref vs), .val (.int idx), .val (.ref fo), .val (.int (Int32.ofNat (s + 0))), .val (.ref x), .val (.int (1 : Int32))]) rfl ?_
  refine g_iload C at_509 (pc' := 511) rfl rfl ?_
  refine g_iload C at_511 (pc' := 513) rfl rfl ?_
  refine g_iload C at_513 (pc' := 515) rfl rfl ?_
  refine g_iadd C at_515 (pc' := 516) rfl ?_
  refine g_icmp_ne C at_516 (by decide) (pc' := 539) (by decide) (pcN := 519) rfl (fun q => absurd (Int32.ofNat_add s 0) q) (fun _ => ?_)
  refine g_aload C at_519 (pc' := 521) rfl rfl rfl ?_
  refine g_ifnullN C at_521 (pc' := 524) rfl ?_
  refine g_aload C at_524 (pc' := 526) rfl rfl rfl ?_
  refine g_virtual (rm := R_s_len) (a := x) C (y := (⟨"java/lang/String", "length", "()I"⟩ : MethodName)) (y' := (⟨"java/lang/String", "length", "()I"⟩ : MethodName)) (hw _ (List.mem_of_getElem? (i := 96) rfl)) (hw _ (List.mem_of_getElem? (i := 97) rfl)) (g_nf C (hw _ (List.mem_of_getElem? (i := 99) rfl))) (hw _ (List.mem_of_getElem? (i := 99) rfl)) (hw _ (List.mem_of_getElem? (i := 98) rfl)) (by decide) E at_526 (pc' := 529) rfl (argsL := []) (rest := []) (lenOf pd_15 rfl) rfl (W := 0) (Nat.le_of_eq rfl) rfl (fun hn9 => Met.back (rm := R_s_len) (s_len hw x t2 s 0 F G1 G3 E Fc Fv B hF hPN O2 P5 X O4 rG3) hn9 C.hZ (hw _ (List.mem_of_getElem? (i := 100) rfl)) (hw _ (List.mem_of_getElem? (i := 35) rfl)) (by decide) (by decide)) (k' := 6) (n' := 142) rfl rfl (by decide) (by decide) ?_
  rintro _ _ ⟨rfl, rfl⟩
  show Go w l _ n0 _ h0 6 142 529 #[.val (.int p0), .val (.int p1), .val (.int p2), .val (.int p3), .val (.long q4), .second, .val (.int kx), .val (.ref kd), .val (.int (0 : Int32)), .val (.int (128 : Int32)), .val (.int (Int32.ofNat 0)), .val (.int rm), .val (.int (Int32.ofNat s)), .val (.int (Int32.ofNat s)), .val (.int sl), .val (.int M), .val (.ref bt), .val (.int (Int32.ofNat m)), .val (.ref vs), .val (.int idx), .val (.ref fo), .val (.int (Int32.ofNat (s + 0))), .val (.ref x), .val (.int (1 : Int32))] [(.int (Int32.ofNat 0))]
  refine g_iload C at_529 (pc' := 531) rfl rfl ?_
  refine g_icmp_ne C at_531 (by decide) (pc' := 539) (by decide) (pcN := 534) rfl (fun q => absurd rfl q) (fun _ => ?_)
  refine g_iload C at_534 (pc' := 536) rfl rfl ?_
  refine g_if_ne C at_536 (by decide) (pc' := 541) (by decide) (pcN := 539) rfl (fun _ => ?_) (fun q => absurd q (by decide))
  refine g_iload C at_541 (pc' := 543) rfl rfl ?_
  refine g_if_ne C at_543 (by decide) (pc' := 548) (by decide) (pcN := 546) rfl (fun q => absurd rfl q) (fun _ => ?_)
  refine g_iconst C (z := (1 : Int32)) at_546 (pc' := 547) rfl rfl ?_
  exact g_retN C (t := .boolean) rfl (by simp) at_547 rfl (by decide) (by decide)
set_option maxRecDepth 65536 in
set_option maxHeartbeats 40000000 in
theorem e489_0z {l : Launch} {Z : State} {a0 : Array Value} (hw : ∀ d ∈ tables_1, d.before a0 Z = true) {w : Wk} {n0 : Nat} {h0 : Heap} {Y : State → Outcome → Prop} (p0 p1 p2 p3 : Int32) (q4 : Int64) (kx rm sl M idx G1 : Int32) (G3 : Value) (kd bt vs fo x t2 : Addr) (s N m : Nat) (F : Nat → Int32) (C : Cx w Z "com/example/longhaul/longhaul/FieldFormatReadPinLaw" code 24 (some .boolean) "law" room_1 n0 (fun v _ => v = some (.int 1)) Y) (CW : LvW w room_1 n0 (fun v _ => v = some (.int 1)) Y) (A : Arf Z h0 bt "[B" .byte (128 : Int32) (fun j => .int (F j))) (Vs : Arf Z h0 vs "[Ljava/lang/String;" (.object "java/lang/String") (4 : Int32) (upd (fun _ => .null) idx.toNatClampNeg (.ref x))) (E : Exa Z h0 x "java/lang/String") (Fc : Fld Z h0 x "java/lang/String" "coder" "B" (.int 0)) (Fv : Fld Z h0 x "java/lang/String" "value" "[B" (.ref t2)) (B : Arw Z h0 t2 .byte (Int32.ofNat 0) (own_sub F s)) (hF : own_ok F) (hPN : s + 0 ≤ 128) (hi0 : ¬ idx < 0) (O2 : Sta Z Z.heap "java/lang/String" "COMPACT_STRINGS" "Z" (.int G1)) (P5 : ¬ G1 = 0) (X : Old Z n0 h0) (O4 : Sta Z Z.heap "jdk/internal/util/Preconditions" "SIOOBE_FORMATTER" "Ljava/util/function/BiFunction;" G3) (rG3 : G3.isRef = true) :
    Go w l room_1 n0 Y h0 6 142 489 #[.val (.int p0), .val (.int p1), .val (.int p2), .val (.int p3), .val (.long q4), .second, .val (.int kx), .val (.ref kd), .val (.int (0 : Int32)), .val (.int (128 : Int32)), .val (.int (Int32.ofNat 0)), .val (.int rm), .val (.int (Int32.ofNat s)), .val (.int (Int32.ofNat s)), .val (.int sl), .val (.int M), .val (.ref bt), .val (.int (Int32.ofNat m)), .val (.ref vs), .val (.int idx), .val (.ref fo), .val (.int (Int32.ofNat (s + 0))), .val (.ref x), .unset] [] := by
  refine g_iload C at_489 (pc' := 491) rfl rfl ?_
  refine g_iconst C (z := (3 : Int32)) at_491 (pc' := 492) rfl rfl ?_
  refine g_icmp_eq C at_492 (by decide) (pc' := 502) (by decide) (pcN := 495) rfl (fun q492 => ?_) (fun q492 => ?_)
  · exact e502_0z (C := C) hw p0 p1 p2 p3 q4 kx rm sl M idx G1 G3 kd bt vs fo x t2 s N m F CW A Vs E Fc Fv B hF hPN hi0 O2 P5 X O4 rG3
  · refine g_aload C at_495 (pc' := 497) rfl rfl rfl ?_
    refine g_iconst C (z := (3 : Int32)) at_497 (pc' := 498) rfl rfl ?_
    refine g_aaload C rfl (v := .null) Vs (by decide) (by decide) (own_rdv (j := 3) hi0 (3 : Int32) rfl q492) at_498 (pc' := 499) rfl ?_
    refine g_ifnonnullN C at_499 (pc' := 502) rfl ?_
    exact e502_0z (C := C) hw p0 p1 p2 p3 q4 kx rm sl M idx G1 G3 kd bt vs fo x t2 s N m F CW A Vs E Fc Fv B hF hPN hi0 O2 P5 X O4 rG3
set_option maxRecDepth 65536 in
set_option maxHeartbeats 40000000 in
theorem e476_0z {l : Launch} {Z : State} {a0 : Array Value} (hw : ∀ d ∈ tables_1, d.before a0 Z = true) {w : Wk} {n0 : Nat} {h0 : Heap} {Y : State → Outcome → Prop} (p0 p1 p2 p3 : Int32) (q4 : Int64) (kx rm sl M idx G1 : Int32) (G3 : Value) (kd bt vs fo x t2 : Addr) (s N m : Nat) (F : Nat → Int32) (C : Cx w Z "com/example/longhaul/longhaul/FieldFormatReadPinLaw" code 24 (some .boolean) "law" room_1 n0 (fun v _ => v = some (.int 1)) Y) (CW : LvW w room_1 n0 (fun v _ => v = some (.int 1)) Y) (A : Arf Z h0 bt "[B" .byte (128 : Int32) (fun j => .int (F j))) (Vs : Arf Z h0 vs "[Ljava/lang/String;" (.object "java/lang/String") (4 : Int32) (upd (fun _ => .null) idx.toNatClampNeg (.ref x))) (E : Exa Z h0 x "java/lang/String") (Fc : Fld Z h0 x "java/lang/String" "coder" "B" (.int 0)) (Fv : Fld Z h0 x "java/lang/String" "value" "[B" (.ref t2)) (B : Arw Z h0 t2 .byte (Int32.ofNat 0) (own_sub F s)) (hF : own_ok F) (hPN : s + 0 ≤ 128) (hi0 : ¬ idx < 0) (O2 : Sta Z Z.heap "java/lang/String" "COMPACT_STRINGS" "Z" (.int G1)) (P5 : ¬ G1 = 0) (X : Old Z n0 h0) (O4 : Sta Z Z.heap "jdk/internal/util/Preconditions" "SIOOBE_FORMATTER" "Ljava/util/function/BiFunction;" G3) (rG3 : G3.isRef = true) :
    Go w l room_1 n0 Y h0 6 142 476 #[.val (.int p0), .val (.int p1), .val (.int p2), .val (.int p3), .val (.long q4), .second, .val (.int kx), .val (.ref kd), .val (.int (0 : Int32)), .val (.int (128 : Int32)), .val (.int (Int32.ofNat 0)), .val (.int rm), .val (.int (Int32.ofNat s)), .val (.int (Int32.ofNat s)), .val (.int sl), .val (.int M), .val (.ref bt), .val (.int (Int32.ofNat m)), .val (.ref vs), .val (.int idx), .val (.ref fo), .val (.int (Int32.ofNat (s + 0))), .val (.ref x), .unset] [] := by
  refine g_iload C at_476 (pc' := 478) rfl rfl ?_
  refine g_iconst C (z := (2 : Int32)) at_478 (pc' := 479) rfl rfl ?_
  refine g_icmp_eq C at_479 (by decide) (pc' := 489) (by decide) (pcN := 482) rfl (fun q479 => ?_) (fun q479 => ?_)
  · exact e489_0z (C := C) hw p0 p1 p2 p3 q4 kx rm sl M idx G1 G3 kd bt vs fo x t2 s N m F CW A Vs E Fc Fv B hF hPN hi0 O2 P5 X O4 rG3
  · refine g_aload C at_482 (pc' := 484) rfl rfl rfl ?_
    refine g_iconst C (z := (2 : Int32)) at_484 (pc' := 485) rfl rfl ?_
    refine g_aaload C rfl (v := .null) Vs (by decide) (by decide) (own_rdv (j := 2) hi0 (2 : Int32) rfl q479) at_485 (pc' := 486) rfl ?_
    refine g_ifnonnullN C at_486 (pc' := 489) rfl ?_
    exact e489_0z (C := C) hw p0 p1 p2 p3 q4 kx rm sl M idx G1 G3 kd bt vs fo x t2 s N m F CW A Vs E Fc Fv B hF hPN hi0 O2 P5 X O4 rG3
set_option maxRecDepth 65536 in
set_option maxHeartbeats 40000000 in
theorem e463_0z {l : Launch} {Z : State} {a0 : Array Value} (hw : ∀ d ∈ tables_1, d.before a0 Z = true) {w : Wk} {n0 : Nat} {h0 : Heap} {Y : State → Outcome → Prop} (p0 p1 p2 p3 : Int32) (q4 : Int64) (kx rm sl M idx G1 : Int32) (G3 : Value) (kd bt vs fo x t2 : Addr) (s N m : Nat) (F : Nat → Int32) (C : Cx w Z "com/example/longhaul/longhaul/FieldFormatReadPinLaw" code 24 (some .boolean) "law" room_1 n0 (fun v _ => v = some (.int 1)) Y) (CW : LvW w room_1 n0 (fun v _ => v = some (.int 1)) Y) (A : Arf Z h0 bt "[B" .byte (128 : Int32) (fun j => .int (F j))) (Vs : Arf Z h0 vs "[Ljava/lang/String;" (.object "java/lang/String") (4 : Int32) (upd (fun _ => .null) idx.toNatClampNeg (.ref x))) (E : Exa Z h0 x "java/lang/String") (Fc : Fld Z h0 x "java/lang/String" "coder" "B" (.int 0)) (Fv : Fld Z h0 x "java/lang/String" "value" "[B" (.ref t2)) (B : Arw Z h0 t2 .byte (Int32.ofNat 0) (own_sub F s)) (hF : own_ok F) (hPN : s + 0 ≤ 128) (hi0 : ¬ idx < 0) (O2 : Sta Z Z.heap "java/lang/String" "COMPACT_STRINGS" "Z" (.int G1)) (P5 : ¬ G1 = 0) (X : Old Z n0 h0) (O4 : Sta Z Z.heap "jdk/internal/util/Preconditions" "SIOOBE_FORMATTER" "Ljava/util/function/BiFunction;" G3) (rG3 : G3.isRef = true) :
    Go w l room_1 n0 Y h0 6 142 463 #[.val (.int p0), .val (.int p1), .val (.int p2), .val (.int p3), .val (.long q4), .second, .val (.int kx), .val (.ref kd), .val (.int (0 : Int32)), .val (.int (128 : Int32)), .val (.int (Int32.ofNat 0)), .val (.int rm), .val (.int (Int32.ofNat s)), .val (.int (Int32.ofNat s)), .val (.int sl), .val (.int M), .val (.ref bt), .val (.int (Int32.ofNat m)), .val (.ref vs), .val (.int idx), .val (.ref fo), .val (.int (Int32.ofNat (s + 0))), .val (.ref x), .unset] [] := by
  refine g_iload C at_463 (pc' := 465) rfl rfl ?_
  refine g_iconst C (z := (1 : Int32)) at_465 (pc' := 466) rfl rfl ?_
  refine g_icmp_eq C at_466 (by decide) (pc' := 476) (by decide) (pcN := 469) rfl (fun q466 => ?_) (fun q466 => ?_)
  · exact e476_0z (C := C) hw p0 p1 p2 p3 q4 kx rm sl M idx G1 G3 kd bt vs fo x t2 s N m F CW A Vs E Fc Fv B hF hPN hi0 O2 P5 X O4 rG3
  · refine g_aload C at_469 (pc' := 471) rfl rfl rfl ?_
    refine g_iconst C (z := (1 : Int32)) at_471 (pc' := 472) rfl rfl ?_
    refine g_aaload C rfl (v := .null) Vs (by decide) (by decide) (own_rdv (j := 1) hi0 (1 : Int32) rfl q466) at_472 (pc' := 473) rfl ?_
    refine g_ifnonnullN C at_473 (pc' := 476) rfl ?_
    exact e476_0z (C := C) hw p0 p1 p2 p3 q4 kx rm sl M idx G1 G3 kd bt vs fo x t2 s N m F CW A Vs E Fc Fv B hF hPN hi0 O2 P5 X O4 rG3
set_option maxRecDepth 65536 in
set_option maxHeartbeats 40000000 in
theorem e451_0z {l : Launch} {Z : State} {a0 : Array Value} (hw : ∀ d ∈ tables_1, d.before a0 Z = true) {w : Wk} {n0 : Nat} {h0 : Heap} {Y : State → Outcome → Prop} (p0 p1 p2 p3 : Int32) (q4 : Int64) (kx rm sl M idx G1 : Int32) (G3 : Value) (kd bt vs fo x t2 : Addr) (s N m : Nat) (F : Nat → Int32) (C : Cx w Z "com/example/longhaul/longhaul/FieldFormatReadPinLaw" code 24 (some .boolean) "law" room_1 n0 (fun v _ => v = some (.int 1)) Y) (CW : LvW w room_1 n0 (fun v _ => v = some (.int 1)) Y) (A : Arf Z h0 bt "[B" .byte (128 : Int32) (fun j => .int (F j))) (Vs : Arf Z h0 vs "[Ljava/lang/String;" (.object "java/lang/String") (4 : Int32) (upd (fun _ => .null) idx.toNatClampNeg (.ref x))) (E : Exa Z h0 x "java/lang/String") (Fc : Fld Z h0 x "java/lang/String" "coder" "B" (.int 0)) (Fv : Fld Z h0 x "java/lang/String" "value" "[B" (.ref t2)) (B : Arw Z h0 t2 .byte (Int32.ofNat 0) (own_sub F s)) (hF : own_ok F) (hPN : s + 0 ≤ 128) (hi0 : ¬ idx < 0) (O2 : Sta Z Z.heap "java/lang/String" "COMPACT_STRINGS" "Z" (.int G1)) (P5 : ¬ G1 = 0) (X : Old Z n0 h0) (O4 : Sta Z Z.heap "jdk/internal/util/Preconditions" "SIOOBE_FORMATTER" "Ljava/util/function/BiFunction;" G3) (rG3 : G3.isRef = true) :
    Go w l room_1 n0 Y h0 6 142 451 #[.val (.int p0), .val (.int p1), .val (.int p2), .val (.int p3), .val (.long q4), .second, .val (.int kx), .val (.ref kd), .val (.int (0 : Int32)), .val (.int (128 : Int32)), .val (.int (Int32.ofNat 0)), .val (.int rm), .val (.int (Int32.ofNat s)), .val (.int (Int32.ofNat s)), .val (.int sl), .val (.int M), .val (.ref bt), .val (.int (Int32.ofNat m)), .val (.ref vs), .val (.int idx), .val (.ref fo), .val (.int (Int32.ofNat (s + 0))), .val (.ref x), .unset] [] := by
  refine g_iload C at_451 (pc' := 453) rfl rfl ?_
  refine g_if_eq C at_453 (by decide) (pc' := 463) (by decide) (pcN := 456) rfl (fun q453 => ?_) (fun q453 => ?_)
  · exact e463_0z (C := C) hw p0 p1 p2 p3 q4 kx rm sl M idx G1 G3 kd bt vs fo x t2 s N m F CW A Vs E Fc Fv B hF hPN hi0 O2 P5 X O4 rG3
  · refine g_aload C at_456 (pc' := 458) rfl rfl rfl ?_
    refine g_iconst C (z := (0 : Int32)) at_458 (pc' := 459) rfl rfl ?_
    refine g_aaload C rfl (v := .null) Vs (by decide) (by decide) (own_rdv (j := 0) hi0 (0 : Int32) rfl q453) at_459 (pc' := 460) rfl ?_
    refine g_ifnonnullN C at_460 (pc' := 463) rfl ?_
    exact e463_0z (C := C) hw p0 p1 p2 p3 q4 kx rm sl M idx G1 G3 kd bt vs fo x t2 s N m F CW A Vs E Fc Fv B hF hPN hi0 O2 P5 X O4 rG3
set_option maxRecDepth 65536 in
set_option maxHeartbeats 40000000 in
theorem e502_2 {l : Launch} {Z : State} {a0 : Array Value} (hw : ∀ d ∈ tables_1, d.before a0 Z = true) {w : Wk} {n0 : Nat} {h0 : Heap} {Y : State → Outcome → Prop} (p0 p1 p2 p3 : Int32) (q4 : Int64) (kx rm sl M idx G1 : Int32) (G3 : Value) (kd bt vs fo x t2 : Addr) (s N m : Nat) (F : Nat → Int32) (C : Cx w Z "com/example/longhaul/longhaul/FieldFormatReadPinLaw" code 24 (some .boolean) "law" room_1 n0 (fun v _ => v = some (.int 1)) Y) (CW : LvW w room_1 n0 (fun v _ => v = some (.int 1)) Y) (A : Arf Z h0 bt "[B" .byte (128 : Int32) (fun j => .int (F j))) (Vs : Arf Z h0 vs "[Ljava/lang/String;" (.object "java/lang/String") (4 : Int32) (upd (fun _ => .null) idx.toNatClampNeg (.ref x))) (E : Exa Z h0 x "java/lang/String") (Fc : Fld Z h0 x "java/lang/String" "coder" "B" (.int 0)) (Fv : Fld Z h0 x "java/lang/String" "value" "[B" (.ref t2)) (B : Arw Z h0 t2 .byte (Int32.ofNat N) (own_sub F (s + 2))) (hF : own_ok F) (hPN : (s + 2) + N ≤ 128) (hi0 : ¬ idx < 0) (O2 : Sta Z Z.heap "java/lang/String" "COMPACT_STRINGS" "Z" (.int G1)) (P5 : ¬ G1 = 0) (X : Old Z n0 h0) (O4 : Sta Z Z.heap "jdk/internal/util/Preconditions" "SIOOBE_FORMATTER" "Ljava/util/function/BiFunction;" G3) (rG3 : G3.isRef = true) (h1 : 1 ≤ N) (hm : m < N) :
    Go w l room_1 n0 Y h0 5 266 502 #[.val (.int p0), .val (.int p1), .val (.int p2), .val (.int p3), .val (.long q4), .second, .val (.int kx), .val (.ref kd), .val (.int (2 : Int32)), .val (.int (99 : Int32)), .val (.int (Int32.ofNat N)), .val (.int rm), .val (.int (Int32.ofNat s)), .val (.int (Int32.ofNat (s + 2))), .val (.int sl), .val (.int M), .val (.ref bt), .val (.int (Int32.ofNat m)), .val (.ref vs), .val (.int idx), .val (.ref fo), .val (.int (Int32.ofNat ((s + 2) + N))), .val (.ref x), .unset] [] := by
  refine g_iconst C (z := (1 : Int32)) at_502 (pc' := 503) rfl rfl ?_
  refine g_goto C at_503 (by decide) (pc' := 507) (by decide) ?_
  refine g_istore C at_507 (pc' := 509) rfl (Ls' := #[.val (.int p0), .val (.int p1), .val (.int p2), .val (.int p3), .val (.long q4), .second, .val (.int kx), .val (.ref kd), .val (.int (2 : Int32)), .val (.int (99 : Int32)), .val (.int (Int32.ofNat N)), .val (.int rm), .val (.int (Int32.ofNat s)), .val (.int (Int32.ofNat (s + 2))), .val (.int sl), .val (.int M), .val (.ref bt), .val (.int (Int32.ofNat m)), .val (.ref vs), .val (.int idx), .val (.ref fo), .val (.int (Int32.ofNat ((s + 2) + N))), .val (.ref x), .val (.int (1 : Int32))]) rfl ?_
  refine g_iload C at_509 (pc' := 511) rfl rfl ?_
  refine g_iload C at_511 (pc' := 513) rfl rfl ?_
  refine g_iload C at_513 (pc' := 515) rfl rfl ?_
  refine g_iadd C at_515 (pc' := 516) rfl ?_
  refine g_icmp_ne C at_516 (by decide) (pc' := 539) (by decide) (pcN := 519) rfl (fun q => absurd (Int32.ofNat_add (s + 2) N) q) (fun _ => ?_)
  refine g_aload C at_519 (pc' := 521) rfl rfl rfl ?_
  refine g_ifnullN C at_521 (pc' := 524) rfl ?_
  refine g_aload C at_524 (pc' := 526) rfl rfl rfl ?_
  refine g_virtual (rm := R_s_len) (a := x) C (y := (⟨"java/lang/String", "length", "()I"⟩ : MethodName)) (y' := (⟨"java/lang/String", "length", "()I"⟩ : MethodName)) (hw _ (List.mem_of_getElem? (i := 96) rfl)) (hw _ (List.mem_of_getElem? (i := 97) rfl)) (g_nf C (hw _ (List.mem_of_getElem? (i := 99) rfl))) (hw _ (List.mem_of_getElem? (i := 99) rfl)) (hw _ (List.mem_of_getElem? (i := 98) rfl)) (by decide) E at_526 (pc' := 529) rfl (argsL := []) (rest := []) (lenOf pd_15 rfl) rfl (W := 0) (Nat.le_of_eq rfl) rfl (fun hn9 => Met.back (rm := R_s_len) (s_len hw x t2 (s + 2) N F G1 G3 E Fc Fv B hF hPN O2 P5 X O4 rG3) hn9 C.hZ (hw _ (List.mem_of_getElem? (i := 100) rfl)) (hw _ (List.mem_of_getElem? (i := 35) rfl)) (by decide) (by decide)) (k' := 5) (n' := 266) rfl rfl (by decide) (by decide) ?_
  rintro _ _ ⟨rfl, rfl⟩
  show Go w l _ n0 _ h0 5 266 529 #[.val (.int p0), .val (.int p1), .val (.int p2), .val (.int p3), .val (.long q4), .second, .val (.int kx), .val (.ref kd), .val (.int (2 : Int32)), .val (.int (99 : Int32)), .val (.int (Int32.ofNat N)), .val (.int rm), .val (.int (Int32.ofNat s)), .val (.int (Int32.ofNat (s + 2))), .val (.int sl), .val (.int M), .val (.ref bt), .val (.int (Int32.ofNat m)), .val (.ref vs), .val (.int idx), .val (.ref fo), .val (.int (Int32.ofNat ((s + 2) + N))), .val (.ref x), .val (.int (1 : Int32))] [(.int (Int32.ofNat N))]
  refine g_iload C at_529 (pc' := 531) rfl rfl ?_
  refine g_icmp_ne C at_531 (by decide) (pc' := 539) (by decide) (pcN := 534) rfl (fun q => absurd rfl q) (fun _ => ?_)
  refine g_iload C at_534 (pc' := 536) rfl rfl ?_
  refine g_if_ne C at_536 (by decide) (pc' := 541) (by decide) (pcN := 539) rfl (fun _ => ?_) (fun q => absurd q (by decide))
  refine g_iload C at_541 (pc' := 543) rfl rfl ?_
  refine g_if_ne C at_543 (by decide) (pc' := 548) (by decide) (pcN := 546) rfl (fun _ => ?_) (fun q => absurd q (own_n0 h1 (by omega)))
  refine g_aload C at_548 (pc' := 550) rfl rfl rfl ?_
  refine g_iconst C (z := (0 : Int32)) at_550 (pc' := 551) rfl rfl ?_
  refine g_virtual (rm := R_s_chr) (a := x) C (y := (⟨"java/lang/String", "charAt", "(I)C"⟩ : MethodName)) (y' := (⟨"java/lang/String", "charAt", "(I)C"⟩ : MethodName)) (hw _ (List.mem_of_getElem? (i := 106) rfl)) (hw _ (List.mem_of_getElem? (i := 107) rfl)) (g_nf C (hw _ (List.mem_of_getElem? (i := 109) rfl))) (hw _ (List.mem_of_getElem? (i := 109) rfl)) (hw _ (List.mem_of_getElem? (i := 108) rfl)) (by decide) E at_551 (pc' := 554) rfl (argsL := [(.int (0 : Int32))]) (rest := []) (lenOf pd_16 rfl) rfl (W := 0) (Nat.le_of_eq rfl) rfl (fun hn9 => Met.back (rm := R_s_chr) (s_chr hw x t2 (s + 2) N F G1 G3 0 E Fc Fv B hF hPN O2 P5 X O4 rG3 (by omega)) hn9 C.hZ (hw _ (List.mem_of_getElem? (i := 110) rfl)) (hw _ (List.mem_of_getElem? (i := 35) rfl)) (by decide) (by decide)) (k' := 5) (n' := 266) rfl rfl (by decide) (by decide) ?_
  rintro _ _ ⟨rfl, rfl⟩
  show Go w l _ n0 _ h0 5 266 554 #[.val (.int p0), .val (.int p1), .val (.int p2), .val (.int p3), .val (.long q4), .second, .val (.int kx), .val (.ref kd), .val (.int (2 : Int32)), .val (.int (99 : Int32)), .val (.int (Int32.ofNat N)), .val (.int rm), .val (.int (Int32.ofNat s)), .val (.int (Int32.ofNat (s + 2))), .val (.int sl), .val (.int M), .val (.ref bt), .val (.int (Int32.ofNat m)), .val (.ref vs), .val (.int idx), .val (.ref fo), .val (.int (Int32.ofNat ((s + 2) + N))), .val (.ref x), .val (.int (1 : Int32))] [(.int (F ((s + 2) + 0)))]
  refine g_aload C at_554 (pc' := 556) rfl rfl rfl ?_
  refine g_iload C at_556 (pc' := 558) rfl rfl ?_
  refine g_baload C (v := (.int (F (s + 2)))) A (n32_nn (by omega)) (n32_lt (n := 128) (by omega) (by omega)) (by show Value.int (F _) = _; rw [n32_nat (by omega)]) at_558 (pc' := 559) rfl ?_
  refine g_i2c C at_559 (pc' := 560) rfl ?_
  refine g_icmp_ne C at_560 (by decide) (pc' := 609) (by decide) (pcN := 563) rfl (fun q => absurd (own_nc (hF (s + 2) (by omega))).symm q) (fun _ => ?_)
  refine g_aload C at_563 (pc' := 565) rfl rfl rfl ?_
  refine g_iload C at_565 (pc' := 567) rfl rfl ?_
  refine g_iconst C (z := (1 : Int32)) at_567 (pc' := 568) rfl rfl ?_
  refine g_isub C at_568 (pc' := 569) rfl ?_
  rw [own_pred h1 (by omega)]
  show Go w l _ n0 _ h0 5 266 569 #[.val (.int p0), .val (.int p1), .val (.int p2), .val (.int p3), .val (.long q4), .second, .val (.int kx), .val (.ref kd), .val (.int (2 : Int32)), .val (.int (99 : Int32)), .val (.int (Int32.ofNat N)), .val (.int rm), .val (.int (Int32.ofNat s)), .val (.int (Int32.ofNat (s + 2))), .val (.int sl), .val (.int M), .val (.ref bt), .val (.int (Int32.ofNat m)), .val (.ref vs), .val (.int idx), .val (.ref fo), .val (.int (Int32.ofNat ((s + 2) + N))), .val (.ref x), .val (.int (1 : Int32))] [(.int (Int32.ofNat (N - 1))), (.ref x)]
  refine g_virtual (rm := R_s_chr) (a := x) C (y := (⟨"java/lang/String", "charAt", "(I)C"⟩ : MethodName)) (y' := (⟨"java/lang/String", "charAt", "(I)C"⟩ : MethodName)) (hw _ (List.mem_of_getElem? (i := 106) rfl)) (hw _ (List.mem_of_getElem? (i := 107) rfl)) (g_nf C (hw _ (List.mem_of_getElem? (i := 109) rfl))) (hw _ (List.mem_of_getElem? (i := 109) rfl)) (hw _ (List.mem_of_getElem? (i := 108) rfl)) (by decide) E at_569 (pc' := 572) rfl (argsL := [(.int (Int32.ofNat (N - 1)))]) (rest := []) (lenOf pd_16 rfl) rfl (W := 0) (Nat.le_of_eq rfl) rfl (fun hn9 => Met.back (rm := R_s_chr) (s_chr hw x t2 (s + 2) N F G1 G3 (N - 1) E Fc Fv B hF hPN O2 P5 X O4 rG3 (by omega)) hn9 C.hZ (hw _ (List.mem_of_getElem? (i := 110) rfl)) (hw _ (List.mem_of_getElem? (i := 35) rfl)) (by decide) (by decide)) (k' := 5) (n' := 266) rfl rfl (by decide) (by decide) ?_
  rintro _ _ ⟨rfl, rfl⟩
  show Go w l _ n0 _ h0 5 266 572 #[.val (.int p0), .val (.int p1), .val (.int p2), .val (.int p3), .val (.long q4), .second, .val (.int kx), .val (.ref kd), .val (.int (2 : Int32)), .val (.int (99 : Int32)), .val (.int (Int32.ofNat N)), .val (.int rm), .val (.int (Int32.ofNat s)), .val (.int (Int32.ofNat (s + 2))), .val (.int sl), .val (.int M), .val (.ref bt), .val (.int (Int32.ofNat m)), .val (.ref vs), .val (.int idx), .val (.ref fo), .val (.int (Int32.ofNat ((s + 2) + N))), .val (.ref x), .val (.int (1 : Int32))] [(.int (F ((s + 2) + (N - 1))))]
  refine g_aload C at_572 (pc' := 574) rfl rfl rfl ?_
  refine g_iload C at_574 (pc' := 576) rfl rfl ?_
  refine g_iload C at_576 (pc' := 578) rfl rfl ?_
  refine g_iadd C at_578 (pc' := 579) rfl ?_
  rw [← Int32.ofNat_add]
  show Go w l _ n0 _ h0 5 266 579 #[.val (.int p0), .val (.int p1), .val (.int p2), .val (.int p3), .val (.long q4), .second, .val (.int kx), .val (.ref kd), .val (.int (2 : Int32)), .val (.int (99 : Int32)), .val (.int (Int32.ofNat N)), .val (.int rm), .val (.int (Int32.ofNat s)), .val (.int (Int32.ofNat (s + 2))), .val (.int sl), .val (.int M), .val (.ref bt), .val (.int (Int32.ofNat m)), .val (.ref vs), .val (.int idx), .val (.ref fo), .val (.int (Int32.ofNat ((s + 2) + N))), .val (.ref x), .val (.int (1 : Int32))] [(.int (Int32.ofNat ((s + 2) + N))), (.ref bt), (.int (F ((s + 2) + (N - 1))))]
  refine g_iconst C (z := (1 : Int32)) at_579 (pc' := 580) rfl rfl ?_
  refine g_isub C at_580 (pc' := 581) rfl ?_
  rw [own_pred (by omega) (by omega)]
  show Go w l _ n0 _ h0 5 266 581 #[.val (.int p0), .val (.int p1), .val (.int p2), .val (.int p3), .val (.long q4), .second, .val (.int kx), .val (.ref kd), .val (.int (2 : Int32)), .val (.int (99 : Int32)), .val (.int (Int32.ofNat N)), .val (.int rm), .val (.int (Int32.ofNat s)), .val (.int (Int32.ofNat (s + 2))), .val (.int sl), .val (.int M), .val (.ref bt), .val (.int (Int32.ofNat m)), .val (.ref vs), .val (.int idx), .val (.ref fo), .val (.int (Int32.ofNat ((s + 2) + N))), .val (.ref x), .val (.int (1 : Int32))] [(.int (Int32.ofNat ((s + 2) + N - 1))), (.ref bt), (.int (F ((s + 2) + (N - 1))))]
  refine g_baload C (v := (.int (F ((s + 2) + N - 1)))) A (n32_nn (by omega)) (n32_lt (n := 128) (by omega) (by omega)) (by show Value.int (F _) = _; rw [n32_nat (by omega)]) at_581 (pc' := 582) rfl ?_
  refine g_i2c C at_582 (pc' := 583) rfl ?_
  refine g_icmp_ne C at_583 (by decide) (pc' := 609) (by decide) (pcN := 586) rfl (fun q => absurd (by rw [own_nc (hF _ (by omega)), show (s + 2) + (N - 1) = (s + 2) + N - 1 by omega]) q) (fun _ => ?_)
  refine g_aload C at_586 (pc' := 588) rfl rfl rfl ?_
  refine g_iload C at_588 (pc' := 590) rfl rfl ?_
  refine g_virtual (rm := R_s_chr) (a := x) C (y := (⟨"java/lang/String", "charAt", "(I)C"⟩ : MethodName)) (y' := (⟨"java/lang/String", "charAt", "(I)C"⟩ : MethodName)) (hw _ (List.mem_of_getElem? (i := 106) rfl)) (hw _ (List.mem_of_getElem? (i := 107) rfl)) (g_nf C (hw _ (List.mem_of_getElem? (i := 109) rfl))) (hw _ (List.mem_of_getElem? (i := 109) rfl)) (hw _ (List.mem_of_getElem? (i := 108) rfl)) (by decide) E at_590 (pc' := 593) rfl (argsL := [(.int (Int32.ofNat m))]) (rest := []) (lenOf pd_16 rfl) rfl (W := 0) (Nat.le_of_eq rfl) rfl (fun hn9 => Met.back (rm := R_s_chr) (s_chr hw x t2 (s + 2) N F G1 G3 m E Fc Fv B hF hPN O2 P5 X O4 rG3 (by omega)) hn9 C.hZ (hw _ (List.mem_of_getElem? (i := 110) rfl)) (hw _ (List.mem_of_getElem? (i := 35) rfl)) (by decide) (by decide)) (k' := 5) (n' := 266) rfl rfl (by decide) (by decide) ?_
  rintro _ _ ⟨rfl, rfl⟩
  show Go w l _ n0 _ h0 5 266 593 #[.val (.int p0), .val (.int p1), .val (.int p2), .val (.int p3), .val (.long q4), .second, .val (.int kx), .val (.ref kd), .val (.int (2 : Int32)), .val (.int (99 : Int32)), .val (.int (Int32.ofNat N)), .val (.int rm), .val (.int (Int32.ofNat s)), .val (.int (Int32.ofNat (s + 2))), .val (.int sl), .val (.int M), .val (.ref bt), .val (.int (Int32.ofNat m)), .val (.ref vs), .val (.int idx), .val (.ref fo), .val (.int (Int32.ofNat ((s + 2) + N))), .val (.ref x), .val (.int (1 : Int32))] [(.int (F ((s + 2) + m)))]
  refine g_aload C at_593 (pc' := 595) rfl rfl rfl ?_
  refine g_iload C at_595 (pc' := 597) rfl rfl ?_
  refine g_iload C at_597 (pc' := 599) rfl rfl ?_
  refine g_iadd C at_599 (pc' := 600) rfl ?_
  rw [← Int32.ofNat_add]
  show Go w l _ n0 _ h0 5 266 600 #[.val (.int p0), .val (.int p1), .val (.int p2), .val (.int p3), .val (.long q4), .second, .val (.int kx), .val (.ref kd), .val (.int (2 : Int32)), .val (.int (99 : Int32)), .val (.int (Int32.ofNat N)), .val (.int rm), .val (.int (Int32.ofNat s)), .val (.int (Int32.ofNat (s + 2))), .val (.int sl), .val (.int M), .val (.ref bt), .val (.int (Int32.ofNat m)), .val (.ref vs), .val (.int idx), .val (.ref fo), .val (.int (Int32.ofNat ((s + 2) + N))), .val (.ref x), .val (.int (1 : Int32))] [(.int (Int32.ofNat ((s + 2) + m))), (.ref bt), (.int (F ((s + 2) + m)))]
  refine g_baload C (v := (.int (F ((s + 2) + m)))) A (n32_nn (by omega)) (n32_lt (n := 128) (by omega) (by omega)) (by show Value.int (F _) = _; rw [n32_nat (by omega)]) at_600 (pc' := 601) rfl ?_
  refine g_i2c C at_601 (pc' := 602) rfl ?_
  refine g_icmp_ne C at_602 (by decide) (pc' := 609) (by decide) (pcN := 605) rfl (fun q => absurd (own_nc (hF ((s + 2) + m) (by omega))).symm q) (fun _ => ?_)
  refine g_iconst C (z := (1 : Int32)) at_605 (pc' := 606) rfl rfl ?_
  refine g_goto C at_606 (by decide) (pc' := 610) (by decide) ?_
  exact g_retN C (t := .boolean) rfl (by simp) at_610 rfl (by decide) (by decide)
set_option maxRecDepth 65536 in
set_option maxHeartbeats 40000000 in
theorem e489_2 {l : Launch} {Z : State} {a0 : Array Value} (hw : ∀ d ∈ tables_1, d.before a0 Z = true) {w : Wk} {n0 : Nat} {h0 : Heap} {Y : State → Outcome → Prop} (p0 p1 p2 p3 : Int32) (q4 : Int64) (kx rm sl M idx G1 : Int32) (G3 : Value) (kd bt vs fo x t2 : Addr) (s N m : Nat) (F : Nat → Int32) (C : Cx w Z "com/example/longhaul/longhaul/FieldFormatReadPinLaw" code 24 (some .boolean) "law" room_1 n0 (fun v _ => v = some (.int 1)) Y) (CW : LvW w room_1 n0 (fun v _ => v = some (.int 1)) Y) (A : Arf Z h0 bt "[B" .byte (128 : Int32) (fun j => .int (F j))) (Vs : Arf Z h0 vs "[Ljava/lang/String;" (.object "java/lang/String") (4 : Int32) (upd (fun _ => .null) idx.toNatClampNeg (.ref x))) (E : Exa Z h0 x "java/lang/String") (Fc : Fld Z h0 x "java/lang/String" "coder" "B" (.int 0)) (Fv : Fld Z h0 x "java/lang/String" "value" "[B" (.ref t2)) (B : Arw Z h0 t2 .byte (Int32.ofNat N) (own_sub F (s + 2))) (hF : own_ok F) (hPN : (s + 2) + N ≤ 128) (hi0 : ¬ idx < 0) (O2 : Sta Z Z.heap "java/lang/String" "COMPACT_STRINGS" "Z" (.int G1)) (P5 : ¬ G1 = 0) (X : Old Z n0 h0) (O4 : Sta Z Z.heap "jdk/internal/util/Preconditions" "SIOOBE_FORMATTER" "Ljava/util/function/BiFunction;" G3) (rG3 : G3.isRef = true) (h1 : 1 ≤ N) (hm : m < N) :
    Go w l room_1 n0 Y h0 5 266 489 #[.val (.int p0), .val (.int p1), .val (.int p2), .val (.int p3), .val (.long q4), .second, .val (.int kx), .val (.ref kd), .val (.int (2 : Int32)), .val (.int (99 : Int32)), .val (.int (Int32.ofNat N)), .val (.int rm), .val (.int (Int32.ofNat s)), .val (.int (Int32.ofNat (s + 2))), .val (.int sl), .val (.int M), .val (.ref bt), .val (.int (Int32.ofNat m)), .val (.ref vs), .val (.int idx), .val (.ref fo), .val (.int (Int32.ofNat ((s + 2) + N))), .val (.ref x), .unset] [] := by
  refine g_iload C at_489 (pc' := 491) rfl rfl ?_
  refine g_iconst C (z := (3 : Int32)) at_491 (pc' := 492) rfl rfl ?_
  refine g_icmp_eq C at_492 (by decide) (pc' := 502) (by decide) (pcN := 495) rfl (fun q492 => ?_) (fun q492 => ?_)
  · exact e502_2 (C := C) hw p0 p1 p2 p3 q4 kx rm sl M idx G1 G3 kd bt vs fo x t2 s N m F CW A Vs E Fc Fv B hF hPN hi0 O2 P5 X O4 rG3 h1 hm
  · refine g_aload C at_495 (pc' := 497) rfl rfl rfl ?_
    refine g_iconst C (z := (3 : Int32)) at_497 (pc' := 498) rfl rfl ?_
    refine g_aaload C rfl (v := .null) Vs (by decide) (by decide) (own_rdv (j := 3) hi0 (3 : Int32) rfl q492) at_498 (pc' := 499) rfl ?_
    refine g_ifnonnullN C at_499 (pc' := 502) rfl ?_
    exact e502_2 (C := C) hw p0 p1 p2 p3 q4 kx rm sl M idx G1 G3 kd bt vs fo x t2 s N m F CW A Vs E Fc Fv B hF hPN hi0 O2 P5 X O4 rG3 h1 hm
set_option maxRecDepth 65536 in
set_option maxHeartbeats 40000000 in
theorem e476_2 {l : Launch} {Z : State} {a0 : Array Value} (hw : ∀ d ∈ tables_1, d.before a0 Z = true) {w : Wk} {n0 : Nat} {h0 : Heap} {Y : State → Outcome → Prop} (p0 p1 p2 p3 : Int32) (q4 : Int64) (kx rm sl M idx G1 : Int32) (G3 : Value) (kd bt vs fo x t2 : Addr) (s N m : Nat) (F : Nat → Int32) (C : Cx w Z "com/example/longhaul/longhaul/FieldFormatReadPinLaw" code 24 (some .boolean) "law" room_1 n0 (fun v _ => v = some (.int 1)) Y) (CW : LvW w room_1 n0 (fun v _ => v = some (.int 1)) Y) (A : Arf Z h0 bt "[B" .byte (128 : Int32) (fun j => .int (F j))) (Vs : Arf Z h0 vs "[Ljava/lang/String;" (.object "java/lang/String") (4 : Int32) (upd (fun _ => .null) idx.toNatClampNeg (.ref x))) (E : Exa Z h0 x "java/lang/String") (Fc : Fld Z h0 x "java/lang/String" "coder" "B" (.int 0)) (Fv : Fld Z h0 x "java/lang/String" "value" "[B" (.ref t2)) (B : Arw Z h0 t2 .byte (Int32.ofNat N) (own_sub F (s + 2))) (hF : own_ok F) (hPN : (s + 2) + N ≤ 128) (hi0 : ¬ idx < 0) (O2 : Sta Z Z.heap "java/lang/String" "COMPACT_STRINGS" "Z" (.int G1)) (P5 : ¬ G1 = 0) (X : Old Z n0 h0) (O4 : Sta Z Z.heap "jdk/internal/util/Preconditions" "SIOOBE_FORMATTER" "Ljava/util/function/BiFunction;" G3) (rG3 : G3.isRef = true) (h1 : 1 ≤ N) (hm : m < N) :
    Go w l room_1 n0 Y h0 5 266 476 #[.val (.int p0), .val (.int p1), .val (.int p2), .val (.int p3), .val (.long q4), .second, .val (.int kx), .val (.ref kd), .val (.int (2 : Int32)), .val (.int (99 : Int32)), .val (.int (Int32.ofNat N)), .val (.int rm), .val (.int (Int32.ofNat s)), .val (.int (Int32.ofNat (s + 2))), .val (.int sl), .val (.int M), .val (.ref bt), .val (.int (Int32.ofNat m)), .val (.ref vs), .val (.int idx), .val (.ref fo), .val (.int (Int32.ofNat ((s + 2) + N))), .val (.ref x), .unset] [] := by
  refine g_iload C at_476 (pc' := 478) rfl rfl ?_
  refine g_iconst C (z := (2 : Int32)) at_478 (pc' := 479) rfl rfl ?_
  refine g_icmp_eq C at_479 (by decide) (pc' := 489) (by decide) (pcN := 482) rfl (fun q479 => ?_) (fun q479 => ?_)
  · exact e489_2 (C := C) hw p0 p1 p2 p3 q4 kx rm sl M idx G1 G3 kd bt vs fo x t2 s N m F CW A Vs E Fc Fv B hF hPN hi0 O2 P5 X O4 rG3 h1 hm
  · refine g_aload C at_482 (pc' := 484) rfl rfl rfl ?_
    refine g_iconst C (z := (2 : Int32)) at_484 (pc' := 485) rfl rfl ?_
    refine g_aaload C rfl (v := .null) Vs (by decide) (by decide) (own_rdv (j := 2) hi0 (2 : Int32) rfl q479) at_485 (pc' := 486) rfl ?_
    refine g_ifnonnullN C at_486 (pc' := 489) rfl ?_
    exact e489_2 (C := C) hw p0 p1 p2 p3 q4 kx rm sl M idx G1 G3 kd bt vs fo x t2 s N m F CW A Vs E Fc Fv B hF hPN hi0 O2 P5 X O4 rG3 h1 hm
set_option maxRecDepth 65536 in
set_option maxHeartbeats 40000000 in
theorem e463_2 {l : Launch} {Z : State} {a0 : Array Value} (hw : ∀ d ∈ tables_1, d.before a0 Z = true) {w : Wk} {n0 : Nat} {h0 : Heap} {Y : State → Outcome → Prop} (p0 p1 p2 p3 : Int32) (q4 : Int64) (kx rm sl M idx G1 : Int32) (G3 : Value) (kd bt vs fo x t2 : Addr) (s N m : Nat) (F : Nat → Int32) (C : Cx w Z "com/example/longhaul/longhaul/FieldFormatReadPinLaw" code 24 (some .boolean) "law" room_1 n0 (fun v _ => v = some (.int 1)) Y) (CW : LvW w room_1 n0 (fun v _ => v = some (.int 1)) Y) (A : Arf Z h0 bt "[B" .byte (128 : Int32) (fun j => .int (F j))) (Vs : Arf Z h0 vs "[Ljava/lang/String;" (.object "java/lang/String") (4 : Int32) (upd (fun _ => .null) idx.toNatClampNeg (.ref x))) (E : Exa Z h0 x "java/lang/String") (Fc : Fld Z h0 x "java/lang/String" "coder" "B" (.int 0)) (Fv : Fld Z h0 x "java/lang/String" "value" "[B" (.ref t2)) (B : Arw Z h0 t2 .byte (Int32.ofNat N) (own_sub F (s + 2))) (hF : own_ok F) (hPN : (s + 2) + N ≤ 128) (hi0 : ¬ idx < 0) (O2 : Sta Z Z.heap "java/lang/String" "COMPACT_STRINGS" "Z" (.int G1)) (P5 : ¬ G1 = 0) (X : Old Z n0 h0) (O4 : Sta Z Z.heap "jdk/internal/util/Preconditions" "SIOOBE_FORMATTER" "Ljava/util/function/BiFunction;" G3) (rG3 : G3.isRef = true) (h1 : 1 ≤ N) (hm : m < N) :
    Go w l room_1 n0 Y h0 5 266 463 #[.val (.int p0), .val (.int p1), .val (.int p2), .val (.int p3), .val (.long q4), .second, .val (.int kx), .val (.ref kd), .val (.int (2 : Int32)), .val (.int (99 : Int32)), .val (.int (Int32.ofNat N)), .val (.int rm), .val (.int (Int32.ofNat s)), .val (.int (Int32.ofNat (s + 2))), .val (.int sl), .val (.int M), .val (.ref bt), .val (.int (Int32.ofNat m)), .val (.ref vs), .val (.int idx), .val (.ref fo), .val (.int (Int32.ofNat ((s + 2) + N))), .val (.ref x), .unset] [] := by
  refine g_iload C at_463 (pc' := 465) rfl rfl ?_
  refine g_iconst C (z := (1 : Int32)) at_465 (pc' := 466) rfl rfl ?_
  refine g_icmp_eq C at_466 (by decide) (pc' := 476) (by decide) (pcN := 469) rfl (fun q466 => ?_) (fun q466 => ?_)
  · exact e476_2 (C := C) hw p0 p1 p2 p3 q4 kx rm sl M idx G1 G3 kd bt vs fo x t2 s N m F CW A Vs E Fc Fv B hF hPN hi0 O2 P5 X O4 rG3 h1 hm
  · refine g_aload C at_469 (pc' := 471) rfl rfl rfl ?_
    refine g_iconst C (z := (1 : Int32)) at_471 (pc' := 472) rfl rfl ?_
    refine g_aaload C rfl (v := .null) Vs (by decide) (by decide) (own_rdv (j := 1) hi0 (1 : Int32) rfl q466) at_472 (pc' := 473) rfl ?_
    refine g_ifnonnullN C at_473 (pc' := 476) rfl ?_
    exact e476_2 (C := C) hw p0 p1 p2 p3 q4 kx rm sl M idx G1 G3 kd bt vs fo x t2 s N m F CW A Vs E Fc Fv B hF hPN hi0 O2 P5 X O4 rG3 h1 hm
set_option maxRecDepth 65536 in
set_option maxHeartbeats 40000000 in
theorem e451_2 {l : Launch} {Z : State} {a0 : Array Value} (hw : ∀ d ∈ tables_1, d.before a0 Z = true) {w : Wk} {n0 : Nat} {h0 : Heap} {Y : State → Outcome → Prop} (p0 p1 p2 p3 : Int32) (q4 : Int64) (kx rm sl M idx G1 : Int32) (G3 : Value) (kd bt vs fo x t2 : Addr) (s N m : Nat) (F : Nat → Int32) (C : Cx w Z "com/example/longhaul/longhaul/FieldFormatReadPinLaw" code 24 (some .boolean) "law" room_1 n0 (fun v _ => v = some (.int 1)) Y) (CW : LvW w room_1 n0 (fun v _ => v = some (.int 1)) Y) (A : Arf Z h0 bt "[B" .byte (128 : Int32) (fun j => .int (F j))) (Vs : Arf Z h0 vs "[Ljava/lang/String;" (.object "java/lang/String") (4 : Int32) (upd (fun _ => .null) idx.toNatClampNeg (.ref x))) (E : Exa Z h0 x "java/lang/String") (Fc : Fld Z h0 x "java/lang/String" "coder" "B" (.int 0)) (Fv : Fld Z h0 x "java/lang/String" "value" "[B" (.ref t2)) (B : Arw Z h0 t2 .byte (Int32.ofNat N) (own_sub F (s + 2))) (hF : own_ok F) (hPN : (s + 2) + N ≤ 128) (hi0 : ¬ idx < 0) (O2 : Sta Z Z.heap "java/lang/String" "COMPACT_STRINGS" "Z" (.int G1)) (P5 : ¬ G1 = 0) (X : Old Z n0 h0) (O4 : Sta Z Z.heap "jdk/internal/util/Preconditions" "SIOOBE_FORMATTER" "Ljava/util/function/BiFunction;" G3) (rG3 : G3.isRef = true) (h1 : 1 ≤ N) (hm : m < N) :
    Go w l room_1 n0 Y h0 5 266 451 #[.val (.int p0), .val (.int p1), .val (.int p2), .val (.int p3), .val (.long q4), .second, .val (.int kx), .val (.ref kd), .val (.int (2 : Int32)), .val (.int (99 : Int32)), .val (.int (Int32.ofNat N)), .val (.int rm), .val (.int (Int32.ofNat s)), .val (.int (Int32.ofNat (s + 2))), .val (.int sl), .val (.int M), .val (.ref bt), .val (.int (Int32.ofNat m)), .val (.ref vs), .val (.int idx), .val (.ref fo), .val (.int (Int32.ofNat ((s + 2) + N))), .val (.ref x), .unset] [] := by
  refine g_iload C at_451 (pc' := 453) rfl rfl ?_
  refine g_if_eq C at_453 (by decide) (pc' := 463) (by decide) (pcN := 456) rfl (fun q453 => ?_) (fun q453 => ?_)
  · exact e463_2 (C := C) hw p0 p1 p2 p3 q4 kx rm sl M idx G1 G3 kd bt vs fo x t2 s N m F CW A Vs E Fc Fv B hF hPN hi0 O2 P5 X O4 rG3 h1 hm
  · refine g_aload C at_456 (pc' := 458) rfl rfl rfl ?_
    refine g_iconst C (z := (0 : Int32)) at_458 (pc' := 459) rfl rfl ?_
    refine g_aaload C rfl (v := .null) Vs (by decide) (by decide) (own_rdv (j := 0) hi0 (0 : Int32) rfl q453) at_459 (pc' := 460) rfl ?_
    refine g_ifnonnullN C at_460 (pc' := 463) rfl ?_
    exact e463_2 (C := C) hw p0 p1 p2 p3 q4 kx rm sl M idx G1 G3 kd bt vs fo x t2 s N m F CW A Vs E Fc Fv B hF hPN hi0 O2 P5 X O4 rG3 h1 hm
set_option maxRecDepth 65536 in
set_option maxHeartbeats 40000000 in
theorem e502_2z {l : Launch} {Z : State} {a0 : Array Value} (hw : ∀ d ∈ tables_1, d.before a0 Z = true) {w : Wk} {n0 : Nat} {h0 : Heap} {Y : State → Outcome → Prop} (p0 p1 p2 p3 : Int32) (q4 : Int64) (kx rm sl M idx G1 : Int32) (G3 : Value) (kd bt vs fo x t2 : Addr) (s N m : Nat) (F : Nat → Int32) (C : Cx w Z "com/example/longhaul/longhaul/FieldFormatReadPinLaw" code 24 (some .boolean) "law" room_1 n0 (fun v _ => v = some (.int 1)) Y) (CW : LvW w room_1 n0 (fun v _ => v = some (.int 1)) Y) (A : Arf Z h0 bt "[B" .byte (128 : Int32) (fun j => .int (F j))) (Vs : Arf Z h0 vs "[Ljava/lang/String;" (.object "java/lang/String") (4 : Int32) (upd (fun _ => .null) idx.toNatClampNeg (.ref x))) (E : Exa Z h0 x "java/lang/String") (Fc : Fld Z h0 x "java/lang/String" "coder" "B" (.int 0)) (Fv : Fld Z h0 x "java/lang/String" "value" "[B" (.ref t2)) (B : Arw Z h0 t2 .byte (Int32.ofNat 0) (own_sub F (s + 2))) (hF : own_ok F) (hPN : (s + 2) + 0 ≤ 128) (hi0 : ¬ idx < 0) (O2 : Sta Z Z.heap "java/lang/String" "COMPACT_STRINGS" "Z" (.int G1)) (P5 : ¬ G1 = 0) (X : Old Z n0 h0) (O4 : Sta Z Z.heap "jdk/internal/util/Preconditions" "SIOOBE_FORMATTER" "Ljava/util/function/BiFunction;" G3) (rG3 : G3.isRef = true) :
    Go w l room_1 n0 Y h0 6 142 502 #[.val (.int p0), .val (.int p1), .val (.int p2), .val (.int p3), .val (.long q4), .second, .val (.int kx), .val (.ref kd), .val (.int (2 : Int32)), .val (.int (99 : Int32)), .val (.int (Int32.ofNat 0)), .val (.int rm), .val (.int (Int32.ofNat s)), .val (.int (Int32.ofNat (s + 2))), .val (.int sl), .val (.int M), .val (.ref bt), .val (.int (Int32.ofNat m)), .val (.ref vs), .val (.int idx), .val (.ref fo), .val (.int (Int32.ofNat ((s + 2) + 0))), .val (.ref x), .unset] [] := by
  refine g_iconst C (z := (1 : Int32)) at_502 (pc' := 503) rfl rfl ?_
  refine g_goto C at_503 (by decide) (pc' := 507) (by decide) ?_
  refine g_istore C at_507 (pc' := 509) rfl (Ls' := #[.val (.int p0), .val (.int p1), .val (.int p2), .val (.int p3), .val (.long q4), .second, .val (.int kx), .val (.ref kd), .val (.int (2 : Int32)), .val (.int (99 : Int32)), .val (.int (Int32.ofNat 0)), .val (.int rm), .val (.int (Int32.ofNat s)), .val (.int (Int32.ofNat (s + 2))), .val (.int sl), .val (.int M), .val (.ref bt), .val (.int (Int32.ofNat m)), .val (.ref vs), .val (.int idx), .val (.ref fo), .val (.int (Int32.ofNat ((s + 2) + 0))), .val (.ref x), .val (.int (1 : Int32))]) rfl ?_
  refine g_iload C at_509 (pc' := 511) rfl rfl ?_
  refine g_iload C at_511 (pc' := 513) rfl rfl ?_
  refine g_iload C at_513 (pc' := 515) rfl rfl ?_
  refine g_iadd C at_515 (pc' := 516) rfl ?_
  refine g_icmp_ne C at_516 (by decide) (pc' := 539) (by decide) (pcN := 519) rfl (fun q => absurd (Int32.ofNat_add (s + 2) 0) q) (fun _ => ?_)
  refine g_aload C at_519 (pc' := 521) rfl rfl rfl ?_
  refine g_ifnullN C at_521 (pc' := 524) rfl ?_
  refine g_aload C at_524 (pc' := 526) rfl rfl rfl ?_
  refine g_virtual (rm := R_s_len) (a := x) C (y := (⟨"java/lang/String", "length", "()I"⟩ : MethodName)) (y' := (⟨"java/lang/String", "length", "()I"⟩ : MethodName)) (hw _ (List.mem_of_getElem? (i := 96) rfl)) (hw _ (List.mem_of_getElem? (i := 97) rfl)) (g_nf C (hw _ (List.mem_of_getElem? (i := 99) rfl))) (hw _ (List.mem_of_getElem? (i := 99) rfl)) (hw _ (List.mem_of_getElem? (i := 98) rfl)) (by decide) E at_526 (pc' := 529) rfl (argsL := []) (rest := []) (lenOf pd_15 rfl) rfl (W := 0) (Nat.le_of_eq rfl) rfl (fun hn9 => Met.back (rm := R_s_len) (s_len hw x t2 (s + 2) 0 F G1 G3 E Fc Fv B hF hPN O2 P5 X O4 rG3) hn9 C.hZ (hw _ (List.mem_of_getElem? (i := 100) rfl)) (hw _ (List.mem_of_getElem? (i := 35) rfl)) (by decide) (by decide)) (k' := 6) (n' := 142) rfl rfl (by decide) (by decide) ?_
  rintro _ _ ⟨rfl, rfl⟩
  show Go w l _ n0 _ h0 6 142 529 #[.val (.int p0), .val (.int p1), .val (.int p2), .val (.int p3), .val (.long q4), .second, .val (.int kx), .val (.ref kd), .val (.int (2 : Int32)), .val (.int (99 : Int32)), .val (.int (Int32.ofNat 0)), .val (.int rm), .val (.int (Int32.ofNat s)), .val (.int (Int32.ofNat (s + 2))), .val (.int sl), .val (.int M), .val (.ref bt), .val (.int (Int32.ofNat m)), .val (.ref vs), .val (.int idx), .val (.ref fo), .val (.int (Int32.ofNat ((s + 2) + 0))), .val (.ref x), .val (.int (1 : Int32))] [(.int (Int32.ofNat 0))]
  refine g_iload C at_529 (pc' := 531) rfl rfl ?_
  refine g_icmp_ne C at_531 (by decide) (pc' := 539) (by decide) (pcN := 534) rfl (fun q => absurd rfl q) (fun _ => ?_)
  refine g_iload C at_534 (pc' := 536) rfl rfl ?_
  refine g_if_ne C at_536 (by decide) (pc' := 541) (by decide) (pcN := 539) rfl (fun _ => ?_) (fun q => absurd q (by decide))
  refine g_iload C at_541 (pc' := 543) rfl rfl ?_
  refine g_if_ne C at_543 (by decide) (pc' := 548) (by decide) (pcN := 546) rfl (fun q => absurd rfl q) (fun _ => ?_)
  refine g_iconst C (z := (1 : Int32)) at_546 (pc' := 547) rfl rfl ?_
  exact g_retN C (t := .boolean) rfl (by simp) at_547 rfl (by decide) (by decide)
set_option maxRecDepth 65536 in
set_option maxHeartbeats 40000000 in
theorem e489_2z {l : Launch} {Z : State} {a0 : Array Value} (hw : ∀ d ∈ tables_1, d.before a0 Z = true) {w : Wk} {n0 : Nat} {h0 : Heap} {Y : State → Outcome → Prop} (p0 p1 p2 p3 : Int32) (q4 : Int64) (kx rm sl M idx G1 : Int32) (G3 : Value) (kd bt vs fo x t2 : Addr) (s N m : Nat) (F : Nat → Int32) (C : Cx w Z "com/example/longhaul/longhaul/FieldFormatReadPinLaw" code 24 (some .boolean) "law" room_1 n0 (fun v _ => v = some (.int 1)) Y) (CW : LvW w room_1 n0 (fun v _ => v = some (.int 1)) Y) (A : Arf Z h0 bt "[B" .byte (128 : Int32) (fun j => .int (F j))) (Vs : Arf Z h0 vs "[Ljava/lang/String;" (.object "java/lang/String") (4 : Int32) (upd (fun _ => .null) idx.toNatClampNeg (.ref x))) (E : Exa Z h0 x "java/lang/String") (Fc : Fld Z h0 x "java/lang/String" "coder" "B" (.int 0)) (Fv : Fld Z h0 x "java/lang/String" "value" "[B" (.ref t2)) (B : Arw Z h0 t2 .byte (Int32.ofNat 0) (own_sub F (s + 2))) (hF : own_ok F) (hPN : (s + 2) + 0 ≤ 128) (hi0 : ¬ idx < 0) (O2 : Sta Z Z.heap "java/lang/String" "COMPACT_STRINGS" "Z" (.int G1)) (P5 : ¬ G1 = 0) (X : Old Z n0 h0) (O4 : Sta Z Z.heap "jdk/internal/util/Preconditions" "SIOOBE_FORMATTER" "Ljava/util/function/BiFunction;" G3) (rG3 : G3.isRef = true) :
    Go w l room_1 n0 Y h0 6 142 489 #[.val (.int p0), .val (.int p1), .val (.int p2), .val (.int p3), .val (.long q4), .second, .val (.int kx), .val (.ref kd), .val (.int (2 : Int32)), .val (.int (99 : Int32)), .val (.int (Int32.ofNat 0)), .val (.int rm), .val (.int (Int32.ofNat s)), .val (.int (Int32.ofNat (s + 2))), .val (.int sl), .val (.int M), .val (.ref bt), .val (.int (Int32.ofNat m)), .val (.ref vs), .val (.int idx), .val (.ref fo), .val (.int (Int32.ofNat ((s + 2) + 0))), .val (.ref x), .unset] [] := by
  refine g_iload C at_489 (pc' := 491) rfl rfl ?_
  refine g_iconst C (z := (3 : Int32)) at_491 (pc' := 492) rfl rfl ?_
  refine g_icmp_eq C at_492 (by decide) (pc' := 502) (by decide) (pcN := 495) rfl (fun q492 => ?_) (fun q492 => ?_)
  · exact e502_2z (C := C) hw p0 p1 p2 p3 q4 kx rm sl M idx G1 G3 kd bt vs fo x t2 s N m F CW A Vs E Fc Fv B hF hPN hi0 O2 P5 X O4 rG3
  · refine g_aload C at_495 (pc' := 497) rfl rfl rfl ?_
    refine g_iconst C (z := (3 : Int32)) at_497 (pc' := 498) rfl rfl ?_
    refine g_aaload C rfl (v := .null) Vs (by decide) (by decide) (own_rdv (j := 3) hi0 (3 : Int32) rfl q492) at_498 (pc' := 499) rfl ?_
    refine g_ifnonnullN C at_499 (pc' := 502) rfl ?_
    exact e502_2z (C := C) hw p0 p1 p2 p3 q4 kx rm sl M idx G1 G3 kd bt vs fo x t2 s N m F CW A Vs E Fc Fv B hF hPN hi0 O2 P5 X O4 rG3
set_option maxRecDepth 65536 in
set_option maxHeartbeats 40000000 in
theorem e476_2z {l : Launch} {Z : State} {a0 : Array Value} (hw : ∀ d ∈ tables_1, d.before a0 Z = true) {w : Wk} {n0 : Nat} {h0 : Heap} {Y : State → Outcome → Prop} (p0 p1 p2 p3 : Int32) (q4 : Int64) (kx rm sl M idx G1 : Int32) (G3 : Value) (kd bt vs fo x t2 : Addr) (s N m : Nat) (F : Nat → Int32) (C : Cx w Z "com/example/longhaul/longhaul/FieldFormatReadPinLaw" code 24 (some .boolean) "law" room_1 n0 (fun v _ => v = some (.int 1)) Y) (CW : LvW w room_1 n0 (fun v _ => v = some (.int 1)) Y) (A : Arf Z h0 bt "[B" .byte (128 : Int32) (fun j => .int (F j))) (Vs : Arf Z h0 vs "[Ljava/lang/String;" (.object "java/lang/String") (4 : Int32) (upd (fun _ => .null) idx.toNatClampNeg (.ref x))) (E : Exa Z h0 x "java/lang/String") (Fc : Fld Z h0 x "java/lang/String" "coder" "B" (.int 0)) (Fv : Fld Z h0 x "java/lang/String" "value" "[B" (.ref t2)) (B : Arw Z h0 t2 .byte (Int32.ofNat 0) (own_sub F (s + 2))) (hF : own_ok F) (hPN : (s + 2) + 0 ≤ 128) (hi0 : ¬ idx < 0) (O2 : Sta Z Z.heap "java/lang/String" "COMPACT_STRINGS" "Z" (.int G1)) (P5 : ¬ G1 = 0) (X : Old Z n0 h0) (O4 : Sta Z Z.heap "jdk/internal/util/Preconditions" "SIOOBE_FORMATTER" "Ljava/util/function/BiFunction;" G3) (rG3 : G3.isRef = true) :
    Go w l room_1 n0 Y h0 6 142 476 #[.val (.int p0), .val (.int p1), .val (.int p2), .val (.int p3), .val (.long q4), .second, .val (.int kx), .val (.ref kd), .val (.int (2 : Int32)), .val (.int (99 : Int32)), .val (.int (Int32.ofNat 0)), .val (.int rm), .val (.int (Int32.ofNat s)), .val (.int (Int32.ofNat (s + 2))), .val (.int sl), .val (.int M), .val (.ref bt), .val (.int (Int32.ofNat m)), .val (.ref vs), .val (.int idx), .val (.ref fo), .val (.int (Int32.ofNat ((s + 2) + 0))), .val (.ref x), .unset] [] := by
  refine g_iload C at_476 (pc' := 478) rfl rfl ?_
  refine g_iconst C (z := (2 : Int32)) at_478 (pc' := 479) rfl rfl ?_
  refine g_icmp_eq C at_479 (by decide) (pc' := 489) (by decide) (pcN := 482) rfl (fun q479 => ?_) (fun q479 => ?_)
  · exact e489_2z (C := C) hw p0 p1 p2 p3 q4 kx rm sl M idx G1 G3 kd bt vs fo x t2 s N m F CW A Vs E Fc Fv B hF hPN hi0 O2 P5 X O4 rG3
  · refine g_aload C at_482 (pc' := 484) rfl rfl rfl ?_
    refine g_iconst C (z := (2 : Int32)) at_484 (pc' := 485) rfl rfl ?_
    refine g_aaload C rfl (v := .null) Vs (by decide) (by decide) (own_rdv (j := 2) hi0 (2 : Int32) rfl q479) at_485 (pc' := 486) rfl ?_
    refine g_ifnonnullN C at_486 (pc' := 489) rfl ?_
    exact e489_2z (C := C) hw p0 p1 p2 p3 q4 kx rm sl M idx G1 G3 kd bt vs fo x t2 s N m F CW A Vs E Fc Fv B hF hPN hi0 O2 P5 X O4 rG3
set_option maxRecDepth 65536 in
set_option maxHeartbeats 40000000 in
theorem e463_2z {l : Launch} {Z : State} {a0 : Array Value} (hw : ∀ d ∈ tables_1, d.before a0 Z = true) {w : Wk} {n0 : Nat} {h0 : Heap} {Y : State → Outcome → Prop} (p0 p1 p2 p3 : Int32) (q4 : Int64) (kx rm sl M idx G1 : Int32) (G3 : Value) (kd bt vs fo x t2 : Addr) (s N m : Nat) (F : Nat → Int32) (C : Cx w Z "com/example/longhaul/longhaul/FieldFormatReadPinLaw" code 24 (some .boolean) "law" room_1 n0 (fun v _ => v = some (.int 1)) Y) (CW : LvW w room_1 n0 (fun v _ => v = some (.int 1)) Y) (A : Arf Z h0 bt "[B" .byte (128 : Int32) (fun j => .int (F j))) (Vs : Arf Z h0 vs "[Ljava/lang/String;" (.object "java/lang/String") (4 : Int32) (upd (fun _ => .null) idx.toNatClampNeg (.ref x))) (E : Exa Z h0 x "java/lang/String") (Fc : Fld Z h0 x "java/lang/String" "coder" "B" (.int 0)) (Fv : Fld Z h0 x "java/lang/String" "value" "[B" (.ref t2)) (B : Arw Z h0 t2 .byte (Int32.ofNat 0) (own_sub F (s + 2))) (hF : own_ok F) (hPN : (s + 2) + 0 ≤ 128) (hi0 : ¬ idx < 0) (O2 : Sta Z Z.heap "java/lang/String" "COMPACT_STRINGS" "Z" (.int G1)) (P5 : ¬ G1 = 0) (X : Old Z n0 h0) (O4 : Sta Z Z.heap "jdk/internal/util/Preconditions" "SIOOBE_FORMATTER" "Ljava/util/function/BiFunction;" G3) (rG3 : G3.isRef = true) :
    Go w l room_1 n0 Y h0 6 142 463 #[.val (.int p0), .val (.int p1), .val (.int p2), .val (.int p3), .val (.long q4), .second, .val (.int kx), .val (.ref kd), .val (.int (2 : Int32)), .val (.int (99 : Int32)), .val (.int (Int32.ofNat 0)), .val (.int rm), .val (.int (Int32.ofNat s)), .val (.int (Int32.ofNat (s + 2))), .val (.int sl), .val (.int M), .val (.ref bt), .val (.int (Int32.ofNat m)), .val (.ref vs), .val (.int idx), .val (.ref fo), .val (.int (Int32.ofNat ((s + 2) + 0))), .val (.ref x), .unset] [] := by
  refine g_iload C at_463 (pc' := 465) rfl rfl ?_
  refine g_iconst C (z := (1 : Int32)) at_465 (pc' := 466) rfl rfl ?_
  refine g_icmp_eq C at_466 (by decide) (pc' := 476) (by decide) (pcN := 469) rfl (fun q466 => ?_) (fun q466 => ?_)
  · exact e476_2z (C := C) hw p0 p1 p2 p3 q4 kx rm sl M idx G1 G3 kd bt vs fo x t2 s N m F CW A Vs E Fc Fv B hF hPN hi0 O2 P5 X O4 rG3
  · refine g_aload C at_469 (pc' := 471) rfl rfl rfl ?_
    refine g_iconst C (z := (1 : Int32)) at_471 (pc' := 472) rfl rfl ?_
    refine g_aaload C rfl (v := .null) Vs (by decide) (by decide) (own_rdv (j := 1) hi0 (1 : Int32) rfl q466) at_472 (pc' := 473) rfl ?_
    refine g_ifnonnullN C at_473 (pc' := 476) rfl ?_
    exact e476_2z (C := C) hw p0 p1 p2 p3 q4 kx rm sl M idx G1 G3 kd bt vs fo x t2 s N m F CW A Vs E Fc Fv B hF hPN hi0 O2 P5 X O4 rG3
set_option maxRecDepth 65536 in
set_option maxHeartbeats 40000000 in
theorem e451_2z {l : Launch} {Z : State} {a0 : Array Value} (hw : ∀ d ∈ tables_1, d.before a0 Z = true) {w : Wk} {n0 : Nat} {h0 : Heap} {Y : State → Outcome → Prop} (p0 p1 p2 p3 : Int32) (q4 : Int64) (kx rm sl M idx G1 : Int32) (G3 : Value) (kd bt vs fo x t2 : Addr) (s N m : Nat) (F : Nat → Int32) (C : Cx w Z "com/example/longhaul/longhaul/FieldFormatReadPinLaw" code 24 (some .boolean) "law" room_1 n0 (fun v _ => v = some (.int 1)) Y) (CW : LvW w room_1 n0 (fun v _ => v = some (.int 1)) Y) (A : Arf Z h0 bt "[B" .byte (128 : Int32) (fun j => .int (F j))) (Vs : Arf Z h0 vs "[Ljava/lang/String;" (.object "java/lang/String") (4 : Int32) (upd (fun _ => .null) idx.toNatClampNeg (.ref x))) (E : Exa Z h0 x "java/lang/String") (Fc : Fld Z h0 x "java/lang/String" "coder" "B" (.int 0)) (Fv : Fld Z h0 x "java/lang/String" "value" "[B" (.ref t2)) (B : Arw Z h0 t2 .byte (Int32.ofNat 0) (own_sub F (s + 2))) (hF : own_ok F) (hPN : (s + 2) + 0 ≤ 128) (hi0 : ¬ idx < 0) (O2 : Sta Z Z.heap "java/lang/String" "COMPACT_STRINGS" "Z" (.int G1)) (P5 : ¬ G1 = 0) (X : Old Z n0 h0) (O4 : Sta Z Z.heap "jdk/internal/util/Preconditions" "SIOOBE_FORMATTER" "Ljava/util/function/BiFunction;" G3) (rG3 : G3.isRef = true) :
    Go w l room_1 n0 Y h0 6 142 451 #[.val (.int p0), .val (.int p1), .val (.int p2), .val (.int p3), .val (.long q4), .second, .val (.int kx), .val (.ref kd), .val (.int (2 : Int32)), .val (.int (99 : Int32)), .val (.int (Int32.ofNat 0)), .val (.int rm), .val (.int (Int32.ofNat s)), .val (.int (Int32.ofNat (s + 2))), .val (.int sl), .val (.int M), .val (.ref bt), .val (.int (Int32.ofNat m)), .val (.ref vs), .val (.int idx), .val (.ref fo), .val (.int (Int32.ofNat ((s + 2) + 0))), .val (.ref x), .unset] [] := by
  refine g_iload C at_451 (pc' := 453) rfl rfl ?_
  refine g_if_eq C at_453 (by decide) (pc' := 463) (by decide) (pcN := 456) rfl (fun q453 => ?_) (fun q453 => ?_)
  · exact e463_2z (C := C) hw p0 p1 p2 p3 q4 kx rm sl M idx G1 G3 kd bt vs fo x t2 s N m F CW A Vs E Fc Fv B hF hPN hi0 O2 P5 X O4 rG3
  · refine g_aload C at_456 (pc' := 458) rfl rfl rfl ?_
    refine g_iconst C (z := (0 : Int32)) at_458 (pc' := 459) rfl rfl ?_
    refine g_aaload C rfl (v := .null) Vs (by decide) (by decide) (own_rdv (j := 0) hi0 (0 : Int32) rfl q453) at_459 (pc' := 460) rfl ?_
    refine g_ifnonnullN C at_460 (pc' := 463) rfl ?_
    exact e463_2z (C := C) hw p0 p1 p2 p3 q4 kx rm sl M idx G1 G3 kd bt vs fo x t2 s N m F CW A Vs E Fc Fv B hF hPN hi0 O2 P5 X O4 rG3
set_option maxRecDepth 65536 in
set_option maxHeartbeats 40000000 in
theorem e502_3 {l : Launch} {Z : State} {a0 : Array Value} (hw : ∀ d ∈ tables_1, d.before a0 Z = true) {w : Wk} {n0 : Nat} {h0 : Heap} {Y : State → Outcome → Prop} (p0 p1 p2 p3 : Int32) (q4 : Int64) (kx rm sl M idx G1 : Int32) (G3 : Value) (kd bt vs fo x t2 : Addr) (s N m : Nat) (F : Nat → Int32) (C : Cx w Z "com/example/longhaul/longhaul/FieldFormatReadPinLaw" code 24 (some .boolean) "law" room_1 n0 (fun v _ => v = some (.int 1)) Y) (CW : LvW w room_1 n0 (fun v _ => v = some (.int 1)) Y) (A : Arf Z h0 bt "[B" .byte (128 : Int32) (fun j => .int (F j))) (Vs : Arf Z h0 vs "[Ljava/lang/String;" (.object "java/lang/String") (4 : Int32) (upd (fun _ => .null) idx.toNatClampNeg (.ref x))) (E : Exa Z h0 x "java/lang/String") (Fc : Fld Z h0 x "java/lang/String" "coder" "B" (.int 0)) (Fv : Fld Z h0 x "java/lang/String" "value" "[B" (.ref t2)) (B : Arw Z h0 t2 .byte (Int32.ofNat N) (own_sub F (s + 3))) (hF : own_ok F) (hPN : (s + 3) + N ≤ 128) (hi0 : ¬ idx < 0) (O2 : Sta Z Z.heap "java/lang/String" "COMPACT_STRINGS" "Z" (.int G1)) (P5 : ¬ G1 = 0) (X : Old Z n0 h0) (O4 : Sta Z Z.heap "jdk/internal/util/Preconditions" "SIOOBE_FORMATTER" "Ljava/util/function/BiFunction;" G3) (rG3 : G3.isRef = true) (h1 : 1 ≤ N) (hm : m < N) :
    Go w l room_1 n0 Y h0 5 266 502 #[.val (.int p0), .val (.int p1), .val (.int p2), .val (.int p3), .val (.long q4), .second, .val (.int kx), .val (.ref kd), .val (.int (3 : Int32)), .val (.int (125 : Int32)), .val (.int (Int32.ofNat N)), .val (.int rm), .val (.int (Int32.ofNat s)), .val (.int (Int32.ofNat (s + 3))), .val (.int sl), .val (.int M), .val (.ref bt), .val (.int (Int32.ofNat m)), .val (.ref vs), .val (.int idx), .val (.ref fo), .val (.int (Int32.ofNat ((s + 3) + N))), .val (.ref x), .unset] [] := by
  refine g_iconst C (z := (1 : Int32)) at_502 (pc' := 503) rfl rfl ?_
  refine g_goto C at_503 (by decide) (pc' := 507) (by decide) ?_
  refine g_istore C at_507 (pc' := 509) rfl (Ls' := #[.val (.int p0), .val (.int p1), .val (.int p2), .val (.int p3), .val (.long q4), .second, .val (.int kx), .val (.ref kd), .val (.int (3 : Int32)), .val (.int (125 : Int32)), .val (.int (Int32.ofNat N)), .val (.int rm), .val (.int (Int32.ofNat s)), .val (.int (Int32.ofNat (s + 3))), .val (.int sl), .val (.int M), .val (.ref bt), .val (.int (Int32.ofNat m)), .val (.ref vs), .val (.int idx), .val (.ref fo), .val (.int (Int32.ofNat ((s + 3) + N))), .val (.ref x), .val (.int (1 : Int32))]) rfl ?_
  refine g_iload C at_509 (pc' := 511) rfl rfl ?_
  refine g_iload C at_511 (pc' := 513) rfl rfl ?_
  refine g_iload C at_513 (pc' := 515) rfl rfl ?_
  refine g_iadd C at_515 (pc' := 516) rfl ?_
  refine g_icmp_ne C at_516 (by decide) (pc' := 539) (by decide) (pcN := 519) rfl (fun q => absurd (Int32.ofNat_add (s + 3) N) q) (fun _ => ?_)
  refine g_aload C at_519 (pc' := 521) rfl rfl rfl ?_
  refine g_ifnullN C at_521 (pc' := 524) rfl ?_
  refine g_aload C at_524 (pc' := 526) rfl rfl rfl ?_
  refine g_virtual (rm := R_s_len) (a := x) C (y := (⟨"java/lang/String", "length", "()I"⟩ : MethodName)) (y' := (⟨"java/lang/String", "length", "()I"⟩ : MethodName)) (hw _ (List.mem_of_getElem? (i := 96) rfl)) (hw _ (List.mem_of_getElem? (i := 97) rfl)) (g_nf C (hw _ (List.mem_of_getElem? (i := 99) rfl))) (hw _ (List.mem_of_getElem? (i := 99) rfl)) (hw _ (List.mem_of_getElem? (i := 98) rfl)) (by decide) E at_526 (pc' := 529) rfl (argsL := []) (rest := []) (lenOf pd_15 rfl) rfl (W := 0) (Nat.le_of_eq rfl) rfl (fun hn9 => Met.back (rm := R_s_len) (s_len hw x t2 (s + 3) N F G1 G3 E Fc Fv B hF hPN O2 P5 X O4 rG3) hn9 C.hZ (hw _ (List.mem_of_getElem? (i := 100) rfl)) (hw _ (List.mem_of_getElem? (i := 35) rfl)) (by decide) (by decide)) (k' := 5) (n' := 266) rfl rfl (by decide) (by decide) ?_
  rintro _ _ ⟨rfl, rfl⟩
  show Go w l _ n0 _ h0 5 266 529 #[.val (.int p0), .val (.int p1), .val (.int p2), .val (.int p3), .val (.long q4), .second, .val (.int kx), .val (.ref kd), .val (.int (3 : Int32)), .val (.int (125 : Int32)), .val (.int (Int32.ofNat N)), .val (.int rm), .val (.int (Int32.ofNat s)), .val (.int (Int32.ofNat (s + 3))), .val (.int sl), .val (.int M), .val (.ref bt), .val (.int (Int32.ofNat m)), .val (.ref vs), .val (.int idx), .val (.ref fo), .val (.int (Int32.ofNat ((s + 3) + N))), .val (.ref x), .val (.int (1 : Int32))] [(.int (Int32.ofNat N))]
  refine g_iload C at_529 (pc' := 531) rfl rfl ?_
  refine g_icmp_ne C at_531 (by decide) (pc' := 539) (by decide) (pcN := 534) rfl (fun q => absurd rfl q) (fun _ => ?_)
  refine g_iload C at_534 (pc' := 536) rfl rfl ?_
  refine g_if_ne C at_536 (by decide) (pc' := 541) (by decide) (pcN := 539) rfl (fun _ => ?_) (fun q => absurd q (by decide))
  refine g_iload C at_541 (pc' := 543) rfl rfl ?_
  refine g_if_ne C at_543 (by decide) (pc' := 548) (by decide) (pcN := 546) rfl (fun _ => ?_) (fun q => absurd q (own_n0 h1 (by omega)))
  refine g_aload C at_548 (pc' := 550) rfl rfl rfl ?_
  refine g_iconst C (z := (0 : Int32)) at_550 (pc' := 551) rfl rfl ?_
  refine g_virtual (rm := R_s_chr) (a := x) C (y := (⟨"java/lang/String", "charAt", "(I)C"⟩ : MethodName)) (y' := (⟨"java/lang/String", "charAt", "(I)C"⟩ : MethodName)) (hw _ (List.mem_of_getElem? (i := 106) rfl)) (hw _ (List.mem_of_getElem? (i := 107) rfl)) (g_nf C (hw _ (List.mem_of_getElem? (i := 109) rfl))) (hw _ (List.mem_of_getElem? (i := 109) rfl)) (hw _ (List.mem_of_getElem? (i := 108) rfl)) (by decide) E at_551 (pc' := 554) rfl (argsL := [(.int (0 : Int32))]) (rest := []) (lenOf pd_16 rfl) rfl (W := 0) (Nat.le_of_eq rfl) rfl (fun hn9 => Met.back (rm := R_s_chr) (s_chr hw x t2 (s + 3) N F G1 G3 0 E Fc Fv B hF hPN O2 P5 X O4 rG3 (by omega)) hn9 C.hZ (hw _ (List.mem_of_getElem? (i := 110) rfl)) (hw _ (List.mem_of_getElem? (i := 35) rfl)) (by decide) (by decide)) (k' := 5) (n' := 266) rfl rfl (by decide) (by decide) ?_
  rintro _ _ ⟨rfl, rfl⟩
  show Go w l _ n0 _ h0 5 266 554 #[.val (.int p0), .val (.int p1), .val (.int p2), .val (.int p3), .val (.long q4), .second, .val (.int kx), .val (.ref kd), .val (.int (3 : Int32)), .val (.int (125 : Int32)), .val (.int (Int32.ofNat N)), .val (.int rm), .val (.int (Int32.ofNat s)), .val (.int (Int32.ofNat (s + 3))), .val (.int sl), .val (.int M), .val (.ref bt), .val (.int (Int32.ofNat m)), .val (.ref vs), .val (.int idx), .val (.ref fo), .val (.int (Int32.ofNat ((s + 3) + N))), .val (.ref x), .val (.int (1 : Int32))] [(.int (F ((s + 3) + 0)))]
  refine g_aload C at_554 (pc' := 556) rfl rfl rfl ?_
  refine g_iload C at_556 (pc' := 558) rfl rfl ?_
  refine g_baload C (v := (.int (F (s + 3)))) A (n32_nn (by omega)) (n32_lt (n := 128) (by omega) (by omega)) (by show Value.int (F _) = _; rw [n32_nat (by omega)]) at_558 (pc' := 559) rfl ?_
  refine g_i2c C at_559 (pc' := 560) rfl ?_
  refine g_icmp_ne C at_560 (by decide) (pc' := 609) (by decide) (pcN := 563) rfl (fun q => absurd (own_nc (hF (s + 3) (by omega))).symm q) (fun _ => ?_)
  refine g_aload C at_563 (pc' := 565) rfl rfl rfl ?_
  refine g_iload C at_565 (pc' := 567) rfl rfl ?_
  refine g_iconst C (z := (1 : Int32)) at_567 (pc' := 568) rfl rfl ?_
  refine g_isub C at_568 (pc' := 569) rfl ?_
  rw [own_pred h1 (by omega)]
  show Go w l _ n0 _ h0 5 266 569 #[.val (.int p0), .val (.int p1), .val (.int p2), .val (.int p3), .val (.long q4), .second, .val (.int kx), .val (.ref kd), .val (.int (3 : Int32)), .val (.int (125 : Int32)), .val (.int (Int32.ofNat N)), .val (.int rm), .val (.int (Int32.ofNat s)), .val (.int (Int32.ofNat (s + 3))), .val (.int sl), .val (.int M), .val (.ref bt), .val (.int (Int32.ofNat m)), .val (.ref vs), .val (.int idx), .val (.ref fo), .val (.int (Int32.ofNat ((s + 3) + N))), .val (.ref x), .val (.int (1 : Int32))] [(.int (Int32.ofNat (N - 1))), (.ref x)]
  refine g_virtual (rm := R_s_chr) (a := x) C (y := (⟨"java/lang/String", "charAt", "(I)C"⟩ : MethodName)) (y' := (⟨"java/lang/String", "charAt", "(I)C"⟩ : MethodName)) (hw _ (List.mem_of_getElem? (i := 106) rfl)) (hw _ (List.mem_of_getElem? (i := 107) rfl)) (g_nf C (hw _ (List.mem_of_getElem? (i := 109) rfl))) (hw _ (List.mem_of_getElem? (i := 109) rfl)) (hw _ (List.mem_of_getElem? (i := 108) rfl)) (by decide) E at_569 (pc' := 572) rfl (argsL := [(.int (Int32.ofNat (N - 1)))]) (rest := []) (lenOf pd_16 rfl) rfl (W := 0) (Nat.le_of_eq rfl) rfl (fun hn9 => Met.back (rm := R_s_chr) (s_chr hw x t2 (s + 3) N F G1 G3 (N - 1) E Fc Fv B hF hPN O2 P5 X O4 rG3 (by omega)) hn9 C.hZ (hw _ (List.mem_of_getElem? (i := 110) rfl)) (hw _ (List.mem_of_getElem? (i := 35) rfl)) (by decide) (by decide)) (k' := 5) (n' := 266) rfl rfl (by decide) (by decide) ?_
  rintro _ _ ⟨rfl, rfl⟩
  show Go w l _ n0 _ h0 5 266 572 #[.val (.int p0), .val (.int p1), .val (.int p2), .val (.int p3), .val (.long q4), .second, .val (.int kx), .val (.ref kd), .val (.int (3 : Int32)), .val (.int (125 : Int32)), .val (.int (Int32.ofNat N)), .val (.int rm), .val (.int (Int32.ofNat s)), .val (.int (Int32.ofNat (s + 3))), .val (.int sl), .val (.int M), .val (.ref bt), .val (.int (Int32.ofNat m)), .val (.ref vs), .val (.int idx), .val (.ref fo), .val (.int (Int32.ofNat ((s + 3) + N))), .val (.ref x), .val (.int (1 : Int32))] [(.int (F ((s + 3) + (N - 1))))]
  refine g_aload C at_572 (pc' := 574) rfl rfl rfl ?_
  refine g_iload C at_574 (pc' := 576) rfl rfl ?_
  refine g_iload C at_576 (pc' := 578) rfl rfl ?_
  refine g_iadd C at_578 (pc' := 579) rfl ?_
  rw [← Int32.ofNat_add]
  show Go w l _ n0 _ h0 5 266 579 #[.val (.int p0), .val (.int p1), .val (.int p2), .val (.int p3), .val (.long q4), .second, .val (.int kx), .val (.ref kd), .val (.int (3 : Int32)), .val (.int (125 : Int32)), .val (.int (Int32.ofNat N)), .val (.int rm), .val (.int (Int32.ofNat s)), .val (.int (Int32.ofNat (s + 3))), .val (.int sl), .val (.int M), .val (.ref bt), .val (.int (Int32.ofNat m)), .val (.ref vs), .val (.int idx), .val (.ref fo), .val (.int (Int32.ofNat ((s + 3) + N))), .val (.ref x), .val (.int (1 : Int32))] [(.int (Int32.ofNat ((s + 3) + N))), (.ref bt), (.int (F ((s + 3) + (N - 1))))]
  refine g_iconst C (z := (1 : Int32)) at_579 (pc' := 580) rfl rfl ?_
  refine g_isub C at_580 (pc' := 581) rfl ?_
  rw [own_pred (by omega) (by omega)]
  show Go w l _ n0 _ h0 5 266 581 #[.val (.int p0), .val (.int p1), .val (.int p2), .val (.int p3), .val (.long q4), .second, .val (.int kx), .val (.ref kd), .val (.int (3 : Int32)), .val (.int (125 : Int32)), .val (.int (Int32.ofNat N)), .val (.int rm), .val (.int (Int32.ofNat s)), .val (.int (Int32.ofNat (s + 3))), .val (.int sl), .val (.int M), .val (.ref bt), .val (.int (Int32.ofNat m)), .val (.ref vs), .val (.int idx), .val (.ref fo), .val (.int (Int32.ofNat ((s + 3) + N))), .val (.ref x), .val (.int (1 : Int32))] [(.int (Int32.ofNat ((s + 3) + N - 1))), (.ref bt), (.int (F ((s + 3) + (N - 1))))]
  refine g_baload C (v := (.int (F ((s + 3) + N - 1)))) A (n32_nn (by omega)) (n32_lt (n := 128) (by omega) (by omega)) (by show Value.int (F _) = _; rw [n32_nat (by omega)]) at_581 (pc' := 582) rfl ?_
  refine g_i2c C at_582 (pc' := 583) rfl ?_
  refine g_icmp_ne C at_583 (by decide) (pc' := 609) (by decide) (pcN := 586) rfl (fun q => absurd (by rw [own_nc (hF _ (by omega)), show (s + 3) + (N - 1) = (s + 3) + N - 1 by omega]) q) (fun _ => ?_)
  refine g_aload C at_586 (pc' := 588) rfl rfl rfl ?_
  refine g_iload C at_588 (pc' := 590) rfl rfl ?_
  refine g_virtual (rm := R_s_chr) (a := x) C (y := (⟨"java/lang/String", "charAt", "(I)C"⟩ : MethodName)) (y' := (⟨"java/lang/String", "charAt", "(I)C"⟩ : MethodName)) (hw _ (List.mem_of_getElem? (i := 106) rfl)) (hw _ (List.mem_of_getElem? (i := 107) rfl)) (g_nf C (hw _ (List.mem_of_getElem? (i := 109) rfl))) (hw _ (List.mem_of_getElem? (i := 109) rfl)) (hw _ (List.mem_of_getElem? (i := 108) rfl)) (by decide) E at_590 (pc' := 593) rfl (argsL := [(.int (Int32.ofNat m))]) (rest := []) (lenOf pd_16 rfl) rfl (W := 0) (Nat.le_of_eq rfl) rfl (fun hn9 => Met.back (rm := R_s_chr) (s_chr hw x t2 (s + 3) N F G1 G3 m E Fc Fv B hF hPN O2 P5 X O4 rG3 (by omega)) hn9 C.hZ (hw _ (List.mem_of_getElem? (i := 110) rfl)) (hw _ (List.mem_of_getElem? (i := 35) rfl)) (by decide) (by decide)) (k' := 5) (n' := 266) rfl rfl (by decide) (by decide) ?_
  rintro _ _ ⟨rfl, rfl⟩
  show Go w l _ n0 _ h0 5 266 593 #[.val (.int p0), .val (.int p1), .val (.int p2), .val (.int p3), .val (.long q4), .second, .val (.int kx), .val (.ref kd), .val (.int (3 : Int32)), .val (.int (125 : Int32)), .val (.int (Int32.ofNat N)), .val (.int rm), .val (.int (Int32.ofNat s)), .val (.int (Int32.ofNat (s + 3))), .val (.int sl), .val (.int M), .val (.ref bt), .val (.int (Int32.ofNat m)), .val (.ref vs), .val (.int idx), .val (.ref fo), .val (.int (Int32.ofNat ((s + 3) + N))), .val (.ref x), .val (.int (1 : Int32))] [(.int (F ((s + 3) + m)))]
  refine g_aload C at_593 (pc' := 595) rfl rfl rfl ?_
  refine g_iload C at_595 (pc' := 597) rfl rfl ?_
  refine g_iload C at_597 (pc' := 599) rfl rfl ?_
  refine g_iadd C at_599 (pc' := 600) rfl ?_
  rw [← Int32.ofNat_add]
  show Go w l _ n0 _ h0 5 266 600 #[.val (.int p0), .val (.int p1), .val (.int p2), .val (.int p3), .val (.long q4), .second, .val (.int kx), .val (.ref kd), .val (.int (3 : Int32)), .val (.int (125 : Int32)), .val (.int (Int32.ofNat N)), .val (.int rm), .val (.int (Int32.ofNat s)), .val (.int (Int32.ofNat (s + 3))), .val (.int sl), .val (.int M), .val (.ref bt), .val (.int (Int32.ofNat m)), .val (.ref vs), .val (.int idx), .val (.ref fo), .val (.int (Int32.ofNat ((s + 3) + N))), .val (.ref x), .val (.int (1 : Int32))] [(.int (Int32.ofNat ((s + 3) + m))), (.ref bt), (.int (F ((s + 3) + m)))]
  refine g_baload C (v := (.int (F ((s + 3) + m)))) A (n32_nn (by omega)) (n32_lt (n := 128) (by omega) (by omega)) (by show Value.int (F _) = _; rw [n32_nat (by omega)]) at_600 (pc' := 601) rfl ?_
  refine g_i2c C at_601 (pc' := 602) rfl ?_
  refine g_icmp_ne C at_602 (by decide) (pc' := 609) (by decide) (pcN := 605) rfl (fun q => absurd (own_nc (hF ((s + 3) + m) (by omega))).symm q) (fun _ => ?_)
  refine g_iconst C (z := (1 : Int32)) at_605 (pc' := 606) rfl rfl ?_
  refine g_goto C at_606 (by decide) (pc' := 610) (by decide) ?_
  exact g_retN C (t := .boolean) rfl (by simp) at_610 rfl (by decide) (by decide)
set_option maxRecDepth 65536 in
set_option maxHeartbeats 40000000 in
theorem e489_3 {l : Launch} {Z : State} {a0 : Array Value} (hw : ∀ d ∈ tables_1, d.before a0 Z = true) {w : Wk} {n0 : Nat} {h0 : Heap} {Y : State → Outcome → Prop} (p0 p1 p2 p3 : Int32) (q4 : Int64) (kx rm sl M idx G1 : Int32) (G3 : Value) (kd bt vs fo x t2 : Addr) (s N m : Nat) (F : Nat → Int32) (C : Cx w Z "com/example/longhaul/longhaul/FieldFormatReadPinLaw" code 24 (some .boolean) "law" room_1 n0 (fun v _ => v = some (.int 1)) Y) (CW : LvW w room_1 n0 (fun v _ => v = some (.int 1)) Y) (A : Arf Z h0 bt "[B" .byte (128 : Int32) (fun j => .int (F j))) (Vs : Arf Z h0 vs "[Ljava/lang/String;" (.object "java/lang/String") (4 : Int32) (upd (fun _ => .null) idx.toNatClampNeg (.ref x))) (E : Exa Z h0 x "java/lang/String") (Fc : Fld Z h0 x "java/lang/String" "coder" "B" (.int 0)) (Fv : Fld Z h0 x "java/lang/String" "value" "[B" (.ref t2)) (B : Arw Z h0 t2 .byte (Int32.ofNat N) (own_sub F (s + 3))) (hF : own_ok F) (hPN : (s + 3) + N ≤ 128) (hi0 : ¬ idx < 0) (O2 : Sta Z Z.heap "java/lang/String" "COMPACT_STRINGS" "Z" (.int G1)) (P5 : ¬ G1 = 0) (X : Old Z n0 h0) (O4 : Sta Z Z.heap "jdk/internal/util/Preconditions" "SIOOBE_FORMATTER" "Ljava/util/function/BiFunction;" G3) (rG3 : G3.isRef = true) (h1 : 1 ≤ N) (hm : m < N) :
    Go w l room_1 n0 Y h0 5 266 489 #[.val (.int p0), .val (.int p1), .val (.int p2), .val (.int p3), .val (.long q4), .second, .val (.int kx), .val (.ref kd), .val (.int (3 : Int32)), .val (.int (125 : Int32)), .val (.int (Int32.ofNat N)), .val (.int rm), .val (.int (Int32.ofNat s)), .val (.int (Int32.ofNat (s + 3))), .val (.int sl), .val (.int M), .val (.ref bt), .val (.int (Int32.ofNat m)), .val (.ref vs), .val (.int idx), .val (.ref fo), .val (.int (Int32.ofNat ((s + 3) + N))), .val (.ref x), .unset] [] := by
  refine g_iload C at_489 (pc' := 491) rfl rfl ?_
  refine g_iconst C (z := (3 : Int32)) at_491 (pc' := 492) rfl rfl ?_
  refine g_icmp_eq C at_492 (by decide) (pc' := 502) (by decide) (pcN := 495) rfl (fun q492 => ?_) (fun q492 => ?_)
  · exact e502_3 (C := C) hw p0 p1 p2 p3 q4 kx rm sl M idx G1 G3 kd bt vs fo x t2 s N m F CW A Vs E Fc Fv B hF hPN hi0 O2 P5 X O4 rG3 h1 hm
  · refine g_aload C at_495 (pc' := 497) rfl rfl rfl ?_
    refine g_iconst C (z := (3 : Int32)) at_497 (pc' := 498) rfl rfl ?_
    refine g_aaload C rfl (v := .null) Vs (by decide) (by decide) (own_rdv (j := 3) hi0 (3 : Int32) rfl q492) at_498 (pc' := 499) rfl ?_
    refine g_ifnonnullN C at_499 (pc' := 502) rfl ?_
    exact e502_3 (C := C) hw p0 p1 p2 p3 q4 kx rm sl M idx G1 G3 kd bt vs fo x t2 s N m F CW A Vs E Fc Fv B hF hPN hi0 O2 P5 X O4 rG3 h1 hm
set_option maxRecDepth 65536 in
set_option maxHeartbeats 40000000 in
theorem e476_3 {l : Launch} {Z : State} {a0 : Array Value} (hw : ∀ d ∈ tables_1, d.before a0 Z = true) {w : Wk} {n0 : Nat} {h0 : Heap} {Y : State → Outcome → Prop} (p0 p1 p2 p3 : Int32) (q4 : Int64) (kx rm sl M idx G1 : Int32) (G3 : Value) (kd bt vs fo x t2 : Addr) (s N m : Nat) (F : Nat → Int32) (C : Cx w Z "com/example/longhaul/longhaul/FieldFormatReadPinLaw" code 24 (some .boolean) "law" room_1 n0 (fun v _ => v = some (.int 1)) Y) (CW : LvW w room_1 n0 (fun v _ => v = some (.int 1)) Y) (A : Arf Z h0 bt "[B" .byte (128 : Int32) (fun j => .int (F j))) (Vs : Arf Z h0 vs "[Ljava/lang/String;" (.object "java/lang/String") (4 : Int32) (upd (fun _ => .null) idx.toNatClampNeg (.ref x))) (E : Exa Z h0 x "java/lang/String") (Fc : Fld Z h0 x "java/lang/String" "coder" "B" (.int 0)) (Fv : Fld Z h0 x "java/lang/String" "value" "[B" (.ref t2)) (B : Arw Z h0 t2 .byte (Int32.ofNat N) (own_sub F (s + 3))) (hF : own_ok F) (hPN : (s + 3) + N ≤ 128) (hi0 : ¬ idx < 0) (O2 : Sta Z Z.heap "java/lang/String" "COMPACT_STRINGS" "Z" (.int G1)) (P5 : ¬ G1 = 0) (X : Old Z n0 h0) (O4 : Sta Z Z.heap "jdk/internal/util/Preconditions" "SIOOBE_FORMATTER" "Ljava/util/function/BiFunction;" G3) (rG3 : G3.isRef = true) (h1 : 1 ≤ N) (hm : m < N) :
    Go w l room_1 n0 Y h0 5 266 476 #[.val (.int p0), .val (.int p1), .val (.int p2), .val (.int p3), .val (.long q4), .second, .val (.int kx), .val (.ref kd), .val (.int (3 : Int32)), .val (.int (125 : Int32)), .val (.int (Int32.ofNat N)), .val (.int rm), .val (.int (Int32.ofNat s)), .val (.int (Int32.ofNat (s + 3))), .val (.int sl), .val (.int M), .val (.ref bt), .val (.int (Int32.ofNat m)), .val (.ref vs), .val (.int idx), .val (.ref fo), .val (.int (Int32.ofNat ((s + 3) + N))), .val (.ref x), .unset] [] := by
  refine g_iload C at_476 (pc' := 478) rfl rfl ?_
  refine g_iconst C (z := (2 : Int32)) at_478 (pc' := 479) rfl rfl ?_
  refine g_icmp_eq C at_479 (by decide) (pc' := 489) (by decide) (pcN := 482) rfl (fun q479 => ?_) (fun q479 => ?_)
  · exact e489_3 (C := C) hw p0 p1 p2 p3 q4 kx rm sl M idx G1 G3 kd bt vs fo x t2 s N m F CW A Vs E Fc Fv B hF hPN hi0 O2 P5 X O4 rG3 h1 hm
  · refine g_aload C at_482 (pc' := 484) rfl rfl rfl ?_
    refine g_iconst C (z := (2 : Int32)) at_484 (pc' := 485) rfl rfl ?_
    refine g_aaload C rfl (v := .null) Vs (by decide) (by decide) (own_rdv (j := 2) hi0 (2 : Int32) rfl q479) at_485 (pc' := 486) rfl ?_
    refine g_ifnonnullN C at_486 (pc' := 489) rfl ?_
    exact e489_3 (C := C) hw p0 p1 p2 p3 q4 kx rm sl M idx G1 G3 kd bt vs fo x t2 s N m F CW A Vs E Fc Fv B hF hPN hi0 O2 P5 X O4 rG3 h1 hm
set_option maxRecDepth 65536 in
set_option maxHeartbeats 40000000 in
theorem e463_3 {l : Launch} {Z : State} {a0 : Array Value} (hw : ∀ d ∈ tables_1, d.before a0 Z = true) {w : Wk} {n0 : Nat} {h0 : Heap} {Y : State → Outcome → Prop} (p0 p1 p2 p3 : Int32) (q4 : Int64) (kx rm sl M idx G1 : Int32) (G3 : Value) (kd bt vs fo x t2 : Addr) (s N m : Nat) (F : Nat → Int32) (C : Cx w Z "com/example/longhaul/longhaul/FieldFormatReadPinLaw" code 24 (some .boolean) "law" room_1 n0 (fun v _ => v = some (.int 1)) Y) (CW : LvW w room_1 n0 (fun v _ => v = some (.int 1)) Y) (A : Arf Z h0 bt "[B" .byte (128 : Int32) (fun j => .int (F j))) (Vs : Arf Z h0 vs "[Ljava/lang/String;" (.object "java/lang/String") (4 : Int32) (upd (fun _ => .null) idx.toNatClampNeg (.ref x))) (E : Exa Z h0 x "java/lang/String") (Fc : Fld Z h0 x "java/lang/String" "coder" "B" (.int 0)) (Fv : Fld Z h0 x "java/lang/String" "value" "[B" (.ref t2)) (B : Arw Z h0 t2 .byte (Int32.ofNat N) (own_sub F (s + 3))) (hF : own_ok F) (hPN : (s + 3) + N ≤ 128) (hi0 : ¬ idx < 0) (O2 : Sta Z Z.heap "java/lang/String" "COMPACT_STRINGS" "Z" (.int G1)) (P5 : ¬ G1 = 0) (X : Old Z n0 h0) (O4 : Sta Z Z.heap "jdk/internal/util/Preconditions" "SIOOBE_FORMATTER" "Ljava/util/function/BiFunction;" G3) (rG3 : G3.isRef = true) (h1 : 1 ≤ N) (hm : m < N) :
    Go w l room_1 n0 Y h0 5 266 463 #[.val (.int p0), .val (.int p1), .val (.int p2), .val (.int p3), .val (.long q4), .second, .val (.int kx), .val (.ref kd), .val (.int (3 : Int32)), .val (.int (125 : Int32)), .val (.int (Int32.ofNat N)), .val (.int rm), .val (.int (Int32.ofNat s)), .val (.int (Int32.ofNat (s + 3))), .val (.int sl), .val (.int M), .val (.ref bt), .val (.int (Int32.ofNat m)), .val (.ref vs), .val (.int idx), .val (.ref fo), .val (.int (Int32.ofNat ((s + 3) + N))), .val (.ref x), .unset] [] := by
  refine g_iload C at_463 (pc' := 465) rfl rfl ?_
  refine g_iconst C (z := (1 : Int32)) at_465 (pc' := 466) rfl rfl ?_
  refine g_icmp_eq C at_466 (by decide) (pc' := 476) (by decide) (pcN := 469) rfl (fun q466 => ?_) (fun q466 => ?_)
  · exact e476_3 (C := C) hw p0 p1 p2 p3 q4 kx rm sl M idx G1 G3 kd bt vs fo x t2 s N m F CW A Vs E Fc Fv B hF hPN hi0 O2 P5 X O4 rG3 h1 hm
  · refine g_aload C at_469 (pc' := 471) rfl rfl rfl ?_
    refine g_iconst C (z := (1 : Int32)) at_471 (pc' := 472) rfl rfl ?_
    refine g_aaload C rfl (v := .null) Vs (by decide) (by decide) (own_rdv (j := 1) hi0 (1 : Int32) rfl q466) at_472 (pc' := 473) rfl ?_
    refine g_ifnonnullN C at_473 (pc' := 476) rfl ?_
    exact e476_3 (C := C) hw p0 p1 p2 p3 q4 kx rm sl M idx G1 G3 kd bt vs fo x t2 s N m F CW A Vs E Fc Fv B hF hPN hi0 O2 P5 X O4 rG3 h1 hm
set_option maxRecDepth 65536 in
set_option maxHeartbeats 40000000 in
theorem e451_3 {l : Launch} {Z : State} {a0 : Array Value} (hw : ∀ d ∈ tables_1, d.before a0 Z = true) {w : Wk} {n0 : Nat} {h0 : Heap} {Y : State → Outcome → Prop} (p0 p1 p2 p3 : Int32) (q4 : Int64) (kx rm sl M idx G1 : Int32) (G3 : Value) (kd bt vs fo x t2 : Addr) (s N m : Nat) (F : Nat → Int32) (C : Cx w Z "com/example/longhaul/longhaul/FieldFormatReadPinLaw" code 24 (some .boolean) "law" room_1 n0 (fun v _ => v = some (.int 1)) Y) (CW : LvW w room_1 n0 (fun v _ => v = some (.int 1)) Y) (A : Arf Z h0 bt "[B" .byte (128 : Int32) (fun j => .int (F j))) (Vs : Arf Z h0 vs "[Ljava/lang/String;" (.object "java/lang/String") (4 : Int32) (upd (fun _ => .null) idx.toNatClampNeg (.ref x))) (E : Exa Z h0 x "java/lang/String") (Fc : Fld Z h0 x "java/lang/String" "coder" "B" (.int 0)) (Fv : Fld Z h0 x "java/lang/String" "value" "[B" (.ref t2)) (B : Arw Z h0 t2 .byte (Int32.ofNat N) (own_sub F (s + 3))) (hF : own_ok F) (hPN : (s + 3) + N ≤ 128) (hi0 : ¬ idx < 0) (O2 : Sta Z Z.heap "java/lang/String" "COMPACT_STRINGS" "Z" (.int G1)) (P5 : ¬ G1 = 0) (X : Old Z n0 h0) (O4 : Sta Z Z.heap "jdk/internal/util/Preconditions" "SIOOBE_FORMATTER" "Ljava/util/function/BiFunction;" G3) (rG3 : G3.isRef = true) (h1 : 1 ≤ N) (hm : m < N) :
    Go w l room_1 n0 Y h0 5 266 451 #[.val (.int p0), .val (.int p1), .val (.int p2), .val (.int p3), .val (.long q4), .second, .val (.int kx), .val (.ref kd), .val (.int (3 : Int32)), .val (.int (125 : Int32)), .val (.int (Int32.ofNat N)), .val (.int rm), .val (.int (Int32.ofNat s)), .val (.int (Int32.ofNat (s + 3))), .val (.int sl), .val (.int M), .val (.ref bt), .val (.int (Int32.ofNat m)), .val (.ref vs), .val (.int idx), .val (.ref fo), .val (.int (Int32.ofNat ((s + 3) + N))), .val (.ref x), .unset] [] := by
  refine g_iload C at_451 (pc' := 453) rfl rfl ?_
  refine g_if_eq C at_453 (by decide) (pc' := 463) (by decide) (pcN := 456) rfl (fun q453 => ?_) (fun q453 => ?_)
  · exact e463_3 (C := C) hw p0 p1 p2 p3 q4 kx rm sl M idx G1 G3 kd bt vs fo x t2 s N m F CW A Vs E Fc Fv B hF hPN hi0 O2 P5 X O4 rG3 h1 hm
  · refine g_aload C at_456 (pc' := 458) rfl rfl rfl ?_
    refine g_iconst C (z := (0 : Int32)) at_458 (pc' := 459) rfl rfl ?_
    refine g_aaload C rfl (v := .null) Vs (by decide) (by decide) (own_rdv (j := 0) hi0 (0 : Int32) rfl q453) at_459 (pc' := 460) rfl ?_
    refine g_ifnonnullN C at_460 (pc' := 463) rfl ?_
    exact e463_3 (C := C) hw p0 p1 p2 p3 q4 kx rm sl M idx G1 G3 kd bt vs fo x t2 s N m F CW A Vs E Fc Fv B hF hPN hi0 O2 P5 X O4 rG3 h1 hm
set_option maxRecDepth 65536 in
set_option maxHeartbeats 40000000 in
theorem e502_3z {l : Launch} {Z : State} {a0 : Array Value} (hw : ∀ d ∈ tables_1, d.before a0 Z = true) {w : Wk} {n0 : Nat} {h0 : Heap} {Y : State → Outcome → Prop} (p0 p1 p2 p3 : Int32) (q4 : Int64) (kx rm sl M idx G1 : Int32) (G3 : Value) (kd bt vs fo x t2 : Addr) (s N m : Nat) (F : Nat → Int32) (C : Cx w Z "com/example/longhaul/longhaul/FieldFormatReadPinLaw" code 24 (some .boolean) "law" room_1 n0 (fun v _ => v = some (.int 1)) Y) (CW : LvW w room_1 n0 (fun v _ => v = some (.int 1)) Y) (A : Arf Z h0 bt "[B" .byte (128 : Int32) (fun j => .int (F j))) (Vs : Arf Z h0 vs "[Ljava/lang/String;" (.object "java/lang/String") (4 : Int32) (upd (fun _ => .null) idx.toNatClampNeg (.ref x))) (E : Exa Z h0 x "java/lang/String") (Fc : Fld Z h0 x "java/lang/String" "coder" "B" (.int 0)) (Fv : Fld Z h0 x "java/lang/String" "value" "[B" (.ref t2)) (B : Arw Z h0 t2 .byte (Int32.ofNat 0) (own_sub F (s + 3))) (hF : own_ok F) (hPN : (s + 3) + 0 ≤ 128) (hi0 : ¬ idx < 0) (O2 : Sta Z Z.heap "java/lang/String" "COMPACT_STRINGS" "Z" (.int G1)) (P5 : ¬ G1 = 0) (X : Old Z n0 h0) (O4 : Sta Z Z.heap "jdk/internal/util/Preconditions" "SIOOBE_FORMATTER" "Ljava/util/function/BiFunction;" G3) (rG3 : G3.isRef = true) :
    Go w l room_1 n0 Y h0 6 142 502 #[.val (.int p0), .val (.int p1), .val (.int p2), .val (.int p3), .val (.long q4), .second, .val (.int kx), .val (.ref kd), .val (.int (3 : Int32)), .val (.int (125 : Int32)), .val (.int (Int32.ofNat 0)), .val (.int rm), .val (.int (Int32.ofNat s)), .val (.int (Int32.ofNat (s + 3))), .val (.int sl), .val (.int M), .val (.ref bt), .val (.int (Int32.ofNat m)), .val (.ref vs), .val (.int idx), .val (.ref fo), .val (.int (Int32.ofNat ((s + 3) + 0))), .val (.ref x), .unset] [] := by
  refine g_iconst C (z := (1 : Int32)) at_502 (pc' := 503) rfl rfl ?_
  refine g_goto C at_503 (by decide) (pc' := 507) (by decide) ?_
  refine g_istore C at_507 (pc' := 509) rfl (Ls' := #[.val (.int p0), .val (.int p1), .val (.int p2), .val (.int p3), .val (.long q4), .second, .val (.int kx), .val (.ref kd), .val (.int (3 : Int32)), .val (.int (125 : Int32)), .val (.int (Int32.ofNat 0)), .val (.int rm), .val (.int (Int32.ofNat s)), .val (.int (Int32.ofNat (s + 3))), .val (.int sl), .val (.int M), .val (.ref bt), .val (.int (Int32.ofNat m)), .val (.ref vs), .val (.int idx), .val (.ref fo), .val (.int (Int32.ofNat ((s + 3) + 0))), .val (.ref x), .val (.int (1 : Int32))]) rfl ?_
  refine g_iload C at_509 (pc' := 511) rfl rfl ?_
  refine g_iload C at_511 (pc' := 513) rfl rfl ?_
  refine g_iload C at_513 (pc' := 515) rfl rfl ?_
  refine g_iadd C at_515 (pc' := 516) rfl ?_
  refine g_icmp_ne C at_516 (by decide) (pc' := 539) (by decide) (pcN := 519) rfl (fun q => absurd (Int32.ofNat_add (s + 3) 0) q) (fun _ => ?_)
  refine g_aload C at_519 (pc' := 521) rfl rfl rfl ?_
  refine g_ifnullN C at_521 (pc' := 524) rfl ?_
  refine g_aload C at_524 (pc' := 526) rfl rfl rfl ?_
  refine g_virtual (rm := R_s_len) (a := x) C (y := (⟨"java/lang/String", "length", "()I"⟩ : MethodName)) (y' := (⟨"java/lang/String", "length", "()I"⟩ : MethodName)) (hw _ (List.mem_of_getElem? (i := 96) rfl)) (hw _ (List.mem_of_getElem? (i := 97) rfl)) (g_nf C (hw _ (List.mem_of_getElem? (i := 99) rfl))) (hw _ (List.mem_of_getElem? (i := 99) rfl)) (hw _ (List.mem_of_getElem? (i := 98) rfl)) (by decide) E at_526 (pc' := 529) rfl (argsL := []) (rest := []) (lenOf pd_15 rfl) rfl (W := 0) (Nat.le_of_eq rfl) rfl (fun hn9 => Met.back (rm := R_s_len) (s_len hw x t2 (s + 3) 0 F G1 G3 E Fc Fv B hF hPN O2 P5 X O4 rG3) hn9 C.hZ (hw _ (List.mem_of_getElem? (i := 100) rfl)) (hw _ (List.mem_of_getElem? (i := 35) rfl)) (by decide) (by decide)) (k' := 6) (n' := 142) rfl rfl (by decide) (by decide) ?_
  rintro _ _ ⟨rfl, rfl⟩
  show Go w l _ n0 _ h0 6 142 529 #[.val (.int p0), .val (.int p1), .val (.int p2), .val (.int p3), .val (.long q4), .second, .val (.int kx), .val (.ref kd), .val (.int (3 : Int32)), .val (.int (125 : Int32)), .val (.int (Int32.ofNat 0)), .val (.int rm), .val (.int (Int32.ofNat s)), .val (.int (Int32.ofNat (s + 3))), .val (.int sl), .val (.int M), .val (.ref bt), .val (.int (Int32.ofNat m)), .val (.ref vs), .val (.int idx), .val (.ref fo), .val (.int (Int32.ofNat ((s + 3) + 0))), .val (.ref x), .val (.int (1 : Int32))] [(.int (Int32.ofNat 0))]
  refine g_iload C at_529 (pc' := 531) rfl rfl ?_
  refine g_icmp_ne C at_531 (by decide) (pc' := 539) (by decide) (pcN := 534) rfl (fun q => absurd rfl q) (fun _ => ?_)
  refine g_iload C at_534 (pc' := 536) rfl rfl ?_
  refine g_if_ne C at_536 (by decide) (pc' := 541) (by decide) (pcN := 539) rfl (fun _ => ?_) (fun q => absurd q (by decide))
  refine g_iload C at_541 (pc' := 543) rfl rfl ?_
  refine g_if_ne C at_543 (by decide) (pc' := 548) (by decide) (pcN := 546) rfl (fun q => absurd rfl q) (fun _ => ?_)
  refine g_iconst C (z := (1 : Int32)) at_546 (pc' := 547) rfl rfl ?_
  exact g_retN C (t := .boolean) rfl (by simp) at_547 rfl (by decide) (by decide)
set_option maxRecDepth 65536 in
set_option maxHeartbeats 40000000 in
theorem e489_3z {l : Launch} {Z : State} {a0 : Array Value} (hw : ∀ d ∈ tables_1, d.before a0 Z = true) {w : Wk} {n0 : Nat} {h0 : Heap} {Y : State → Outcome → Prop} (p0 p1 p2 p3 : Int32) (q4 : Int64) (kx rm sl M idx G1 : Int32) (G3 : Value) (kd bt vs fo x t2 : Addr) (s N m : Nat) (F : Nat → Int32) (C : Cx w Z "com/example/longhaul/longhaul/FieldFormatReadPinLaw" code 24 (some .boolean) "law" room_1 n0 (fun v _ => v = some (.int 1)) Y) (CW : LvW w room_1 n0 (fun v _ => v = some (.int 1)) Y) (A : Arf Z h0 bt "[B" .byte (128 : Int32) (fun j => .int (F j))) (Vs : Arf Z h0 vs "[Ljava/lang/String;" (.object "java/lang/String") (4 : Int32) (upd (fun _ => .null) idx.toNatClampNeg (.ref x))) (E : Exa Z h0 x "java/lang/String") (Fc : Fld Z h0 x "java/lang/String" "coder" "B" (.int 0)) (Fv : Fld Z h0 x "java/lang/String" "value" "[B" (.ref t2)) (B : Arw Z h0 t2 .byte (Int32.ofNat 0) (own_sub F (s + 3))) (hF : own_ok F) (hPN : (s + 3) + 0 ≤ 128) (hi0 : ¬ idx < 0) (O2 : Sta Z Z.heap "java/lang/String" "COMPACT_STRINGS" "Z" (.int G1)) (P5 : ¬ G1 = 0) (X : Old Z n0 h0) (O4 : Sta Z Z.heap "jdk/internal/util/Preconditions" "SIOOBE_FORMATTER" "Ljava/util/function/BiFunction;" G3) (rG3 : G3.isRef = true) :
    Go w l room_1 n0 Y h0 6 142 489 #[.val (.int p0), .val (.int p1), .val (.int p2), .val (.int p3), .val (.long q4), .second, .val (.int kx), .val (.ref kd), .val (.int (3 : Int32)), .val (.int (125 : Int32)), .val (.int (Int32.ofNat 0)), .val (.int rm), .val (.int (Int32.ofNat s)), .val (.int (Int32.ofNat (s + 3))), .val (.int sl), .val (.int M), .val (.ref bt), .val (.int (Int32.ofNat m)), .val (.ref vs), .val (.int idx), .val (.ref fo), .val (.int (Int32.ofNat ((s + 3) + 0))), .val (.ref x), .unset] [] := by
  refine g_iload C at_489 (pc' := 491) rfl rfl ?_
  refine g_iconst C (z := (3 : Int32)) at_491 (pc' := 492) rfl rfl ?_
  refine g_icmp_eq C at_492 (by decide) (pc' := 502) (by decide) (pcN := 495) rfl (fun q492 => ?_) (fun q492 => ?_)
  · exact e502_3z (C := C) hw p0 p1 p2 p3 q4 kx rm sl M idx G1 G3 kd bt vs fo x t2 s N m F CW A Vs E Fc Fv B hF hPN hi0 O2 P5 X O4 rG3
  · refine g_aload C at_495 (pc' := 497) rfl rfl rfl ?_
    refine g_iconst C (z := (3 : Int32)) at_497 (pc' := 498) rfl rfl ?_
    refine g_aaload C rfl (v := .null) Vs (by decide) (by decide) (own_rdv (j := 3) hi0 (3 : Int32) rfl q492) at_498 (pc' := 499) rfl ?_
    refine g_ifnonnullN C at_499 (pc' := 502) rfl ?_
    exact e502_3z (C := C) hw p0 p1 p2 p3 q4 kx rm sl M idx G1 G3 kd bt vs fo x t2 s N m F CW A Vs E Fc Fv B hF hPN hi0 O2 P5 X O4 rG3
set_option maxRecDepth 65536 in
set_option maxHeartbeats 40000000 in
theorem e476_3z {l : Launch} {Z : State} {a0 : Array Value} (hw : ∀ d ∈ tables_1, d.before a0 Z = true) {w : Wk} {n0 : Nat} {h0 : Heap} {Y : State → Outcome → Prop} (p0 p1 p2 p3 : Int32) (q4 : Int64) (kx rm sl M idx G1 : Int32) (G3 : Value) (kd bt vs fo x t2 : Addr) (s N m : Nat) (F : Nat → Int32) (C : Cx w Z "com/example/longhaul/longhaul/FieldFormatReadPinLaw" code 24 (some .boolean) "law" room_1 n0 (fun v _ => v = some (.int 1)) Y) (CW : LvW w room_1 n0 (fun v _ => v = some (.int 1)) Y) (A : Arf Z h0 bt "[B" .byte (128 : Int32) (fun j => .int (F j))) (Vs : Arf Z h0 vs "[Ljava/lang/String;" (.object "java/lang/String") (4 : Int32) (upd (fun _ => .null) idx.toNatClampNeg (.ref x))) (E : Exa Z h0 x "java/lang/String") (Fc : Fld Z h0 x "java/lang/String" "coder" "B" (.int 0)) (Fv : Fld Z h0 x "java/lang/String" "value" "[B" (.ref t2)) (B : Arw Z h0 t2 .byte (Int32.ofNat 0) (own_sub F (s + 3))) (hF : own_ok F) (hPN : (s + 3) + 0 ≤ 128) (hi0 : ¬ idx < 0) (O2 : Sta Z Z.heap "java/lang/String" "COMPACT_STRINGS" "Z" (.int G1)) (P5 : ¬ G1 = 0) (X : Old Z n0 h0) (O4 : Sta Z Z.heap "jdk/internal/util/Preconditions" "SIOOBE_FORMATTER" "Ljava/util/function/BiFunction;" G3) (rG3 : G3.isRef = true) :
    Go w l room_1 n0 Y h0 6 142 476 #[.val (.int p0), .val (.int p1), .val (.int p2), .val (.int p3), .val (.long q4), .second, .val (.int kx), .val (.ref kd), .val (.int (3 : Int32)), .val (.int (125 : Int32)), .val (.int (Int32.ofNat 0)), .val (.int rm), .val (.int (Int32.ofNat s)), .val (.int (Int32.ofNat (s + 3))), .val (.int sl), .val (.int M), .val (.ref bt), .val (.int (Int32.ofNat m)), .val (.ref vs), .val (.int idx), .val (.ref fo), .val (.int (Int32.ofNat ((s + 3) + 0))), .val (.ref x), .unset] [] := by
  refine g_iload C at_476 (pc' := 478) rfl rfl ?_
  refine g_iconst C (z := (2 : Int32)) at_478 (pc' := 479) rfl rfl ?_
  refine g_icmp_eq C at_479 (by decide) (pc' := 489) (by decide) (pcN := 482) rfl (fun q479 => ?_) (fun q479 => ?_)
  · exact e489_3z (C := C) hw p0 p1 p2 p3 q4 kx rm sl M idx G1 G3 kd bt vs fo x t2 s N m F CW A Vs E Fc Fv B hF hPN hi0 O2 P5 X O4 rG3
  · refine g_aload C at_482 (pc' := 484) rfl rfl rfl ?_
    refine g_iconst C (z := (2 : Int32)) at_484 (pc' := 485) rfl rfl ?_
    refine g_aaload C rfl (v := .null) Vs (by decide) (by decide) (own_rdv (j := 2) hi0 (2 : Int32) rfl q479) at_485 (pc' := 486) rfl ?_
    refine g_ifnonnullN C at_486 (pc' := 489) rfl ?_
    exact e489_3z (C := C) hw p0 p1 p2 p3 q4 kx rm sl M idx G1 G3 kd bt vs fo x t2 s N m F CW A Vs E Fc Fv B hF hPN hi0 O2 P5 X O4 rG3
set_option maxRecDepth 65536 in
set_option maxHeartbeats 40000000 in
theorem e463_3z {l : Launch} {Z : State} {a0 : Array Value} (hw : ∀ d ∈ tables_1, d.before a0 Z = true) {w : Wk} {n0 : Nat} {h0 : Heap} {Y : State → Outcome → Prop} (p0 p1 p2 p3 : Int32) (q4 : Int64) (kx rm sl M idx G1 : Int32) (G3 : Value) (kd bt vs fo x t2 : Addr) (s N m : Nat) (F : Nat → Int32) (C : Cx w Z "com/example/longhaul/longhaul/FieldFormatReadPinLaw" code 24 (some .boolean) "law" room_1 n0 (fun v _ => v = some (.int 1)) Y) (CW : LvW w room_1 n0 (fun v _ => v = some (.int 1)) Y) (A : Arf Z h0 bt "[B" .byte (128 : Int32) (fun j => .int (F j))) (Vs : Arf Z h0 vs "[Ljava/lang/String;" (.object "java/lang/String") (4 : Int32) (upd (fun _ => .null) idx.toNatClampNeg (.ref x))) (E : Exa Z h0 x "java/lang/String") (Fc : Fld Z h0 x "java/lang/String" "coder" "B" (.int 0)) (Fv : Fld Z h0 x "java/lang/String" "value" "[B" (.ref t2)) (B : Arw Z h0 t2 .byte (Int32.ofNat 0) (own_sub F (s + 3))) (hF : own_ok F) (hPN : (s + 3) + 0 ≤ 128) (hi0 : ¬ idx < 0) (O2 : Sta Z Z.heap "java/lang/String" "COMPACT_STRINGS" "Z" (.int G1)) (P5 : ¬ G1 = 0) (X : Old Z n0 h0) (O4 : Sta Z Z.heap "jdk/internal/util/Preconditions" "SIOOBE_FORMATTER" "Ljava/util/function/BiFunction;" G3) (rG3 : G3.isRef = true) :
    Go w l room_1 n0 Y h0 6 142 463 #[.val (.int p0), .val (.int p1), .val (.int p2), .val (.int p3), .val (.long q4), .second, .val (.int kx), .val (.ref kd), .val (.int (3 : Int32)), .val (.int (125 : Int32)), .val (.int (Int32.ofNat 0)), .val (.int rm), .val (.int (Int32.ofNat s)), .val (.int (Int32.ofNat (s + 3))), .val (.int sl), .val (.int M), .val (.ref bt), .val (.int (Int32.ofNat m)), .val (.ref vs), .val (.int idx), .val (.ref fo), .val (.int (Int32.ofNat ((s + 3) + 0))), .val (.ref x), .unset] [] := by
  refine g_iload C at_463 (pc' := 465) rfl rfl ?_
  refine g_iconst C (z := (1 : Int32)) at_465 (pc' := 466) rfl rfl ?_
  refine g_icmp_eq C at_466 (by decide) (pc' := 476) (by decide) (pcN := 469) rfl (fun q466 => ?_) (fun q466 => ?_)
  · exact e476_3z (C := C) hw p0 p1 p2 p3 q4 kx rm sl M idx G1 G3 kd bt vs fo x t2 s N m F CW A Vs E Fc Fv B hF hPN hi0 O2 P5 X O4 rG3
  · refine g_aload C at_469 (pc' := 471) rfl rfl rfl ?_
    refine g_iconst C (z := (1 : Int32)) at_471 (pc' := 472) rfl rfl ?_
    refine g_aaload C rfl (v := .null) Vs (by decide) (by decide) (own_rdv (j := 1) hi0 (1 : Int32) rfl q466) at_472 (pc' := 473) rfl ?_
    refine g_ifnonnullN C at_473 (pc' := 476) rfl ?_
    exact e476_3z (C := C) hw p0 p1 p2 p3 q4 kx rm sl M idx G1 G3 kd bt vs fo x t2 s N m F CW A Vs E Fc Fv B hF hPN hi0 O2 P5 X O4 rG3
set_option maxRecDepth 65536 in
set_option maxHeartbeats 40000000 in
theorem e451_3z {l : Launch} {Z : State} {a0 : Array Value} (hw : ∀ d ∈ tables_1, d.before a0 Z = true) {w : Wk} {n0 : Nat} {h0 : Heap} {Y : State → Outcome → Prop} (p0 p1 p2 p3 : Int32) (q4 : Int64) (kx rm sl M idx G1 : Int32) (G3 : Value) (kd bt vs fo x t2 : Addr) (s N m : Nat) (F : Nat → Int32) (C : Cx w Z "com/example/longhaul/longhaul/FieldFormatReadPinLaw" code 24 (some .boolean) "law" room_1 n0 (fun v _ => v = some (.int 1)) Y) (CW : LvW w room_1 n0 (fun v _ => v = some (.int 1)) Y) (A : Arf Z h0 bt "[B" .byte (128 : Int32) (fun j => .int (F j))) (Vs : Arf Z h0 vs "[Ljava/lang/String;" (.object "java/lang/String") (4 : Int32) (upd (fun _ => .null) idx.toNatClampNeg (.ref x))) (E : Exa Z h0 x "java/lang/String") (Fc : Fld Z h0 x "java/lang/String" "coder" "B" (.int 0)) (Fv : Fld Z h0 x "java/lang/String" "value" "[B" (.ref t2)) (B : Arw Z h0 t2 .byte (Int32.ofNat 0) (own_sub F (s + 3))) (hF : own_ok F) (hPN : (s + 3) + 0 ≤ 128) (hi0 : ¬ idx < 0) (O2 : Sta Z Z.heap "java/lang/String" "COMPACT_STRINGS" "Z" (.int G1)) (P5 : ¬ G1 = 0) (X : Old Z n0 h0) (O4 : Sta Z Z.heap "jdk/internal/util/Preconditions" "SIOOBE_FORMATTER" "Ljava/util/function/BiFunction;" G3) (rG3 : G3.isRef = true) :
    Go w l room_1 n0 Y h0 6 142 451 #[.val (.int p0), .val (.int p1), .val (.int p2), .val (.int p3), .val (.long q4), .second, .val (.int kx), .val (.ref kd), .val (.int (3 : Int32)), .val (.int (125 : Int32)), .val (.int (Int32.ofNat 0)), .val (.int rm), .val (.int (Int32.ofNat s)), .val (.int (Int32.ofNat (s + 3))), .val (.int sl), .val (.int M), .val (.ref bt), .val (.int (Int32.ofNat m)), .val (.ref vs), .val (.int idx), .val (.ref fo), .val (.int (Int32.ofNat ((s + 3) + 0))), .val (.ref x), .unset] [] := by
  refine g_iload C at_451 (pc' := 453) rfl rfl ?_
  refine g_if_eq C at_453 (by decide) (pc' := 463) (by decide) (pcN := 456) rfl (fun q453 => ?_) (fun q453 => ?_)
  · exact e463_3z (C := C) hw p0 p1 p2 p3 q4 kx rm sl M idx G1 G3 kd bt vs fo x t2 s N m F CW A Vs E Fc Fv B hF hPN hi0 O2 P5 X O4 rG3
  · refine g_aload C at_456 (pc' := 458) rfl rfl rfl ?_
    refine g_iconst C (z := (0 : Int32)) at_458 (pc' := 459) rfl rfl ?_
    refine g_aaload C rfl (v := .null) Vs (by decide) (by decide) (own_rdv (j := 0) hi0 (0 : Int32) rfl q453) at_459 (pc' := 460) rfl ?_
    refine g_ifnonnullN C at_460 (pc' := 463) rfl ?_
    exact e463_3z (C := C) hw p0 p1 p2 p3 q4 kx rm sl M idx G1 G3 kd bt vs fo x t2 s N m F CW A Vs E Fc Fv B hF hPN hi0 O2 P5 X O4 rG3
set_option maxRecDepth 65536 in
set_option maxHeartbeats 40000000 in
theorem f404_0z {l : Launch} {Z : State} {a0 : Array Value} (hw : ∀ d ∈ tables_1, d.before a0 Z = true) {w : Wk} {n0 : Nat} {h0 : Heap} {Y : State → Outcome → Prop} (p0 p1 p2 p3 : Int32) (q4 : Int64) (kx G1 sl M : Int32) (G3 : Value) (kd cs u8 iso bt : Addr) (s m : Nat) (F : Nat → Int32) (C : Cx w Z "com/example/longhaul/longhaul/FieldFormatReadPinLaw" code 24 (some .boolean) "law" room_1 n0 (fun v _ => v = some (.int 1)) Y) (CW : LvW w room_1 n0 (fun v _ => v = some (.int 1)) Y) (Fd : Fld Z Z.heap kd "com/example/longhaul/longhaul/Iso8583AsciiCodec$LengthKind" "digits" "I" (.int 0)) (O2 : Sta Z Z.heap "java/lang/String" "COMPACT_STRINGS" "Z" (.int G1)) (P5 : ¬ G1 = 0) (Ou : Sta Z Z.heap "sun/nio/cs/UTF_8" "INSTANCE" "Lsun/nio/cs/UTF_8;" (.ref u8)) (Oi : Sta Z Z.heap "sun/nio/cs/ISO_8859_1" "INSTANCE" "Lsun/nio/cs/ISO_8859_1;" (.ref iso)) (Oa : Sta Z Z.heap "sun/nio/cs/US_ASCII" "INSTANCE" "Lsun/nio/cs/US_ASCII;" (.ref cs)) (ne_cs_u8 : cs ≠ u8) (ne_cs_iso : cs ≠ iso) (Ecs : Exa Z Z.heap cs "sun/nio/cs/US_ASCII") (O4 : Sta Z Z.heap "jdk/internal/util/Preconditions" "SIOOBE_FORMATTER" "Ljava/util/function/BiFunction;" G3) (rG3 : G3.isRef = true) (Os : Sta Z Z.heap "java/nio/charset/StandardCharsets" "US_ASCII" "Ljava/nio/charset/Charset;" (.ref cs)) (hh : Jvm.Lit.constHeld Z "java/lang/String" 7) (hcw : Jvm.Lit.compactW.before a0 Z = true) (hI : w.s.vm.interned = Z.vm.interned) (hPN : s + 0 ≤ 128) (X : Old Z n0 h0) (A : Arf Z h0 bt "[B" .byte (128 : Int32) (fun j => .int (F j))) (gb : n0 ≤ bt) (hF : own_ok F)  :
    Go w l room_1 n0 Y h0 1 128 404 #[.val (.int p0), .val (.int p1), .val (.int p2), .val (.int p3), .val (.long q4), .second, .val (.int kx), .val (.ref kd), .val (.int (0 : Int32)), .val (.int (128 : Int32)), .val (.int (Int32.ofNat 0)), .val (.int (Int32.ofNat (128 - 0))), .val (.int (Int32.ofNat s)), .val (.int (Int32.ofNat s)), .val (.int sl), .val (.int (Int32.ofNat 0)), .val (.ref bt), .val (.int (Int32.ofNat m)), .unset, .unset, .unset, .unset, .unset, .unset] [] := by
  refine g_iconst C (z := (4 : Int32)) at_404 (pc' := 405) rfl rfl ?_
  refine g_anewarr C (ad := "[Ljava/lang/String;") (cap := 4) (hw _ (List.mem_of_getElem? (i := 6) rfl)) (hw _ (List.mem_of_getElem? (i := 7) rfl)) at_405 (pc' := 408) rfl rfl (by decide) (by decide) (by decide) (k' := 2) (n' := 132) rfl rfl (by decide) (by decide) ?_
  intro h84 b84 E84 fb84 gb84 A84 V84
  have ne_bt_b84 : bt ≠ b84 := Nat.ne_of_lt (Nat.lt_of_lt_of_le A.lt fb84)
  have A := A.ext E84
  have X := X.ext E84
  refine g_astore C at_408 (pc' := 410) rfl rfl (Ls' := #[.val (.int p0), .val (.int p1), .val (.int p2), .val (.int p3), .val (.long q4), .second, .val (.int kx), .val (.ref kd), .val (.int (0 : Int32)), .val (.int (128 : Int32)), .val (.int (Int32.ofNat 0)), .val (.int (Int32.ofNat (128 - 0))), .val (.int (Int32.ofNat s)), .val (.int (Int32.ofNat s)), .val (.int sl), .val (.int (Int32.ofNat 0)), .val (.ref bt), .val (.int (Int32.ofNat m)), .val (.ref b84), .unset, .unset, .unset, .unset, .unset]) rfl ?_
  refine g_iloadN C at_410 (pc' := 411) rfl rfl ?_
  refine g_iconst C (z := (3 : Int32)) at_411 (pc' := 412) rfl rfl ?_
  refine g_iand C at_412 (pc' := 413) rfl ?_
  refine g_istore C at_413 (pc' := 415) rfl (Ls' := #[.val (.int p0), .val (.int p1), .val (.int p2), .val (.int p3), .val (.long q4), .second, .val (.int kx), .val (.ref kd), .val (.int (0 : Int32)), .val (.int (128 : Int32)), .val (.int (Int32.ofNat 0)), .val (.int (Int32.ofNat (128 - 0))), .val (.int (Int32.ofNat s)), .val (.int (Int32.ofNat s)), .val (.int sl), .val (.int (Int32.ofNat 0)), .val (.ref bt), .val (.int (Int32.ofNat m)), .val (.ref b84), .val (.int (p3 &&& (3 : Int32))), .unset, .unset, .unset, .unset]) rfl ?_
  refine g_new C (hw _ (List.mem_of_getElem? (i := 8) rfl)) (hw _ (List.mem_of_getElem? (i := 9) rfl)) (hw _ (List.mem_of_getElem? (i := 10) rfl)) at_415 (pc' := 418) rfl (k' := 3) (n' := 134) rfl rfl (by decide) (by decide) ?_
  intro h85 b85 E85 fb85 gb85 A85 D85
  have ne_bt_b85 : bt ≠ b85 := Nat.ne_of_lt (Nat.lt_of_lt_of_le A.lt fb85)
  have ne_b84_b85 : b84 ≠ b85 := Nat.ne_of_lt (Nat.lt_of_lt_of_le A84.lt fb85)
  have A := A.ext E85
  have X := X.ext E85
  have A84 := A84.ext E85
  have F85_kind : Fld Z h85 b85 "com/example/longhaul/longhaul/Iso8583AsciiCodec$FieldFormat" "kind" "Lcom/example/longhaul/longhaul/Iso8583AsciiCodec$LengthKind;" .null := D85 (Or.inr (hw _ (List.mem_of_getElem? (i := 23) rfl))) (ty := (.object "com/example/longhaul/longhaul/Iso8583AsciiCodec$LengthKind")) (by decide)
  have F85_maxLength : Fld Z h85 b85 "com/example/longhaul/longhaul/Iso8583AsciiCodec$FieldFormat" "maxLength" "I" (.int (0 : Int32)) := D85 (Or.inr (hw _ (List.mem_of_getElem? (i := 25) rfl))) (ty := .int) (by decide)
  refine g_dup C at_418 (pc' := 419) rfl rfl ?_
  refine g_aload C at_419 (pc' := 421) rfl rfl rfl ?_
  refine g_iload C at_421 (pc' := 423) rfl rfl ?_
  refine g_special (rm := R_s_ff) (a := b85) C (y := (⟨"com/example/longhaul/longhaul/Iso8583AsciiCodec$FieldFormat", "<init>", "(Lcom/example/longhaul/longhaul/Iso8583AsciiCodec$LengthKind;I)V"⟩ : MethodName)) rfl (hw _ (List.mem_of_getElem? (i := 11) rfl)) (hw _ (List.mem_of_getElem? (i := 12) rfl)) (hw _ (List.mem_of_getElem? (i := 13) rfl)) (by decide) at_423 (pc' := 426) rfl (argsL := [(.ref kd), (.int (Int32.ofNat 0))]) (rest := [(.ref b85)]) (lenOf pd_17 rfl) rfl (W := 1) (Nat.le_of_eq rfl) rfl (fun hn9 => Met.back (rm := R_s_ff) (s_ff hw b85 kd (Int32.ofNat 0) F85_kind F85_maxLength A85 gb85) hn9 C.hZ (hw _ (List.mem_of_getElem? (i := 13) rfl)) (hw _ (List.mem_of_getElem? (i := 10) rfl)) (by decide) (by decide)) (k' := 3) (n' := 134) rfl rfl (by decide) (by decide) ?_
  rintro _ h86 ⟨rfl, Kf, Ef, Fk, Fm⟩
  have A := A.keep Kf (ninS ne_bt_b85 nin0)
  have X := X.keep Kf (allS gb85 all0)
  have A84 := A84.keep Kf (ninS ne_b84_b85 nin0)
  show Go w l _ n0 _ h86 3 134 426 #[.val (.int p0), .val (.int p1), .val (.int p2), .val (.int p3), .val (.long q4), .second, .val (.int kx), .val (.ref kd), .val (.int (0 : Int32)), .val (.int (128 : Int32)), .val (.int (Int32.ofNat 0)), .val (.int (Int32.ofNat (128 - 0))), .val (.int (Int32.ofNat s)), .val (.int (Int32.ofNat s)), .val (.int sl), .val (.int (Int32.ofNat 0)), .val (.ref bt), .val (.int (Int32.ofNat m)), .val (.ref b84), .val (.int (p3 &&& (3 : Int32))), .unset, .unset, .unset, .unset] [(.ref b85)]
  refine g_astore C at_426 (pc' := 428) rfl rfl (Ls' := #[.val (.int p0), .val (.int p1), .val (.int p2), .val (.int p3), .val (.long q4), .second, .val (.int kx), .val (.ref kd), .val (.int (0 : Int32)), .val (.int (128 : Int32)), .val (.int (Int32.ofNat 0)), .val (.int (Int32.ofNat (128 - 0))), .val (.int (Int32.ofNat s)), .val (.int (Int32.ofNat s)), .val (.int sl), .val (.int (Int32.ofNat 0)), .val (.ref bt), .val (.int (Int32.ofNat m)), .val (.ref b84), .val (.int (p3 &&& (3 : Int32))), .val (.ref b85), .unset, .unset, .unset]) rfl ?_
  refine g_aload C at_428 (pc' := 430) rfl rfl rfl ?_
  refine g_iloadN C at_430 (pc' := 431) rfl rfl ?_
  refine g_aload C at_431 (pc' := 433) rfl rfl rfl ?_
  refine g_iload C at_433 (pc' := 435) rfl rfl ?_
  refine g_aload C at_435 (pc' := 437) rfl rfl rfl ?_
  refine g_iload C at_437 (pc' := 439) rfl rfl ?_
  refine g_virtualS (rm := R_rd0z) (a := b85) C CW (y := (⟨"com/example/longhaul/longhaul/Iso8583AsciiCodec$FieldFormat", "read", "(I[BI[Ljava/lang/String;I)I"⟩ : MethodName)) (y' := (⟨"com/example/longhaul/longhaul/Iso8583AsciiCodec$FieldFormat", "read", "(I[BI[Ljava/lang/String;I)I"⟩ : MethodName)) (hw _ (List.mem_of_getElem? (i := 26) rfl)) (hw _ (List.mem_of_getElem? (i := 27) rfl)) (g_nf C (hw _ (List.mem_of_getElem? (i := 29) rfl))) (hw _ (List.mem_of_getElem? (i := 29) rfl)) (hw _ (List.mem_of_getElem? (i := 28) rfl)) (by decide) Ef at_439 (pc' := 442) rfl (argsL := [(.int p3), (.ref bt), (.int (Int32.ofNat s)), (.ref b84), (.int (p3 &&& (3 : Int32)))]) (rest := []) (lenOf pd_18 rfl) rfl (W := 0) (Nat.le_of_eq rfl) rfl (fun hn9 => MetWI.back (rm := R_rd0z) (rd0z hw b85 kd bt b84 cs u8 iso s 0 F M (p3 &&& 3) p3 G1 G3 Fk Fm (Fd.ext X.2) A A84 V84 gb84 ne_bt_b84 (own_i3 p3).1 (own_i3 p3).2 hF hPN O2 P5 Ou Oi Oa ne_cs_u8 ne_cs_iso X (Ecs.ext X.2) O4 rG3 Os   hh hcw) hn9 C.hZ hI (hw _ (List.mem_of_getElem? (i := 30) rfl)) (hw _ (List.mem_of_getElem? (i := 10) rfl)) (by decide) (by decide)) (k' := 6) (n' := 142) rfl rfl (by decide) (by decide) ?_
  rintro w _ h9 C CW ⟨x, rfl, X, A, Vs, E, t2, Fc, Fv, B⟩
  show Go w l _ n0 _ h9 6 142 442 #[.val (.int p0), .val (.int p1), .val (.int p2), .val (.int p3), .val (.long q4), .second, .val (.int kx), .val (.ref kd), .val (.int (0 : Int32)), .val (.int (128 : Int32)), .val (.int (Int32.ofNat 0)), .val (.int (Int32.ofNat (128 - 0))), .val (.int (Int32.ofNat s)), .val (.int (Int32.ofNat s)), .val (.int sl), .val (.int (Int32.ofNat 0)), .val (.ref bt), .val (.int (Int32.ofNat m)), .val (.ref b84), .val (.int (p3 &&& (3 : Int32))), .val (.ref b85), .unset, .unset, .unset] [(.int (Int32.ofNat (s + 0)))]
  refine g_istore C at_442 (pc' := 444) rfl (Ls' := #[.val (.int p0), .val (.int p1), .val (.int p2), .val (.int p3), .val (.long q4), .second, .val (.int kx), .val (.ref kd), .val (.int (0 : Int32)), .val (.int (128 : Int32)), .val (.int (Int32.ofNat 0)), .val (.int (Int32.ofNat (128 - 0))), .val (.int (Int32.ofNat s)), .val (.int (Int32.ofNat s)), .val (.int sl), .val (.int (Int32.ofNat 0)), .val (.ref bt), .val (.int (Int32.ofNat m)), .val (.ref b84), .val (.int (p3 &&& (3 : Int32))), .val (.ref b85), .val (.int (Int32.ofNat (s + 0))), .unset, .unset]) rfl ?_
  refine g_aload C at_444 (pc' := 446) rfl rfl rfl ?_
  refine g_iload C at_446 (pc' := 448) rfl rfl ?_
  refine g_aaload C rfl (v := (.ref x)) Vs (own_i3 p3).1 (own_i3 p3).2 (upd_same _ _ _) at_448 (pc' := 449) rfl ?_
  refine g_astore C at_449 (pc' := 451) rfl rfl (Ls' := #[.val (.int p0), .val (.int p1), .val (.int p2), .val (.int p3), .val (.long q4), .second, .val (.int kx), .val (.ref kd), .val (.int (0 : Int32)), .val (.int (128 : Int32)), .val (.int (Int32.ofNat 0)), .val (.int (Int32.ofNat (128 - 0))), .val (.int (Int32.ofNat s)), .val (.int (Int32.ofNat s)), .val (.int sl), .val (.int (Int32.ofNat 0)), .val (.ref bt), .val (.int (Int32.ofNat m)), .val (.ref b84), .val (.int (p3 &&& (3 : Int32))), .val (.ref b85), .val (.int (Int32.ofNat (s + 0))), .val (.ref x), .unset]) rfl ?_
  exact e451_0z (C := C) hw p0 p1 p2 p3 q4 kx (Int32.ofNat (128 - 0)) sl (Int32.ofNat 0) (p3 &&& 3) G1 G3 kd bt b84 b85 x t2 s 0 m F CW A Vs E Fc Fv B hF hPN (own_i3 p3).1 O2 P5 X O4 rG3
set_option maxRecDepth 65536 in
set_option maxHeartbeats 40000000 in
theorem f374_0z {l : Launch} {Z : State} {a0 : Array Value} (hw : ∀ d ∈ tables_1, d.before a0 Z = true) {w : Wk} {n0 : Nat} {h0 : Heap} {Y : State → Outcome → Prop} (p0 p1 p2 p3 : Int32) (q4 : Int64) (kx G1 sl M : Int32) (G3 : Value) (kd cs u8 iso bt : Addr) (s m : Nat) (F : Nat → Int32) (C : Cx w Z "com/example/longhaul/longhaul/FieldFormatReadPinLaw" code 24 (some .boolean) "law" room_1 n0 (fun v _ => v = some (.int 1)) Y) (CW : LvW w room_1 n0 (fun v _ => v = some (.int 1)) Y) (Fd : Fld Z Z.heap kd "com/example/longhaul/longhaul/Iso8583AsciiCodec$LengthKind" "digits" "I" (.int 0)) (O2 : Sta Z Z.heap "java/lang/String" "COMPACT_STRINGS" "Z" (.int G1)) (P5 : ¬ G1 = 0) (Ou : Sta Z Z.heap "sun/nio/cs/UTF_8" "INSTANCE" "Lsun/nio/cs/UTF_8;" (.ref u8)) (Oi : Sta Z Z.heap "sun/nio/cs/ISO_8859_1" "INSTANCE" "Lsun/nio/cs/ISO_8859_1;" (.ref iso)) (Oa : Sta Z Z.heap "sun/nio/cs/US_ASCII" "INSTANCE" "Lsun/nio/cs/US_ASCII;" (.ref cs)) (ne_cs_u8 : cs ≠ u8) (ne_cs_iso : cs ≠ iso) (Ecs : Exa Z Z.heap cs "sun/nio/cs/US_ASCII") (O4 : Sta Z Z.heap "jdk/internal/util/Preconditions" "SIOOBE_FORMATTER" "Ljava/util/function/BiFunction;" G3) (rG3 : G3.isRef = true) (Os : Sta Z Z.heap "java/nio/charset/StandardCharsets" "US_ASCII" "Ljava/nio/charset/Charset;" (.ref cs)) (hh : Jvm.Lit.constHeld Z "java/lang/String" 7) (hcw : Jvm.Lit.compactW.before a0 Z = true) (hI : w.s.vm.interned = Z.vm.interned) (hPN : s + 0 ≤ 128) (X : Old Z n0 h0) (A : Arf Z h0 bt "[B" .byte (128 : Int32) (fun j => .int (F j))) (gb : n0 ≤ bt) (hF : own_ok F)  :
    Go w l room_1 n0 Y h0 1 128 374 #[.val (.int p0), .val (.int p1), .val (.int p2), .val (.int p3), .val (.long q4), .second, .val (.int kx), .val (.ref kd), .val (.int (0 : Int32)), .val (.int (128 : Int32)), .val (.int (Int32.ofNat 0)), .val (.int (Int32.ofNat (128 - 0))), .val (.int (Int32.ofNat s)), .val (.int (Int32.ofNat s)), .val (.int sl), .val (.int (Int32.ofNat 0)), .val (.ref bt), .val (.int (Int32.ofNat m)), .unset, .unset, .unset, .unset, .unset, .unset] [] := by
  refine g_iload C at_374 (pc' := 376) rfl rfl ?_
  refine g_iload C at_376 (pc' := 378) rfl rfl ?_
  refine g_iadd C at_378 (pc' := 379) rfl ?_
  rw [← Int32.ofNat_add]
  show Go w l _ n0 _ h0 1 128 379 #[.val (.int p0), .val (.int p1), .val (.int p2), .val (.int p3), .val (.long q4), .second, .val (.int kx), .val (.ref kd), .val (.int (0 : Int32)), .val (.int (128 : Int32)), .val (.int (Int32.ofNat 0)), .val (.int (Int32.ofNat (128 - 0))), .val (.int (Int32.ofNat s)), .val (.int (Int32.ofNat s)), .val (.int sl), .val (.int (Int32.ofNat 0)), .val (.ref bt), .val (.int (Int32.ofNat m)), .unset, .unset, .unset, .unset, .unset, .unset] [(.int (Int32.ofNat (s + 0)))]
  refine g_sipush C (z := (128 : Int32)) at_379 (pc' := 382) rfl rfl ?_
  refine g_icmp_ge C at_382 (by decide) (pc' := 404) (by decide) (pcN := 385) rfl (fun q382 => ?_) (fun q382 => ?_)
  · exact f404_0z (C := C) hw p0 p1 p2 p3 q4 kx G1 sl M G3 kd cs u8 iso bt s m F CW Fd O2 P5 Ou Oi Oa ne_cs_u8 ne_cs_iso Ecs O4 rG3 Os hh hcw hI hPN X A gb hF 
  · have z382 : s + 0 < 128 := own_ge128 q382 (by omega)
    refine g_aload C at_385 (pc' := 387) rfl rfl rfl ?_
    refine g_iload C at_387 (pc' := 389) rfl rfl ?_
    refine g_iload C at_389 (pc' := 391) rfl rfl ?_
    refine g_iadd C at_391 (pc' := 392) rfl ?_
    rw [← Int32.ofNat_add]
    show Go w l _ n0 _ h0 1 128 392 #[.val (.int p0), .val (.int p1), .val (.int p2), .val (.int p3), .val (.long q4), .second, .val (.int kx), .val (.ref kd), .val (.int (0 : Int32)), .val (.int (128 : Int32)), .val (.int (Int32.ofNat 0)), .val (.int (Int32.ofNat (128 - 0))), .val (.int (Int32.ofNat s)), .val (.int (Int32.ofNat s)), .val (.int sl), .val (.int (Int32.ofNat 0)), .val (.ref bt), .val (.int (Int32.ofNat m)), .unset, .unset, .unset, .unset, .unset, .unset] [(.int (Int32.ofNat (s + 0))), (.ref bt)]
    refine g_lload C at_392 (pc' := 394) rfl rfl ?_
    refine g_bipush C (z := (32 : Int32)) at_394 (pc' := 396) rfl rfl ?_
    refine g_lushr C at_396 (pc' := 397) rfl ?_
    refine g_ldc2J C (hw _ (List.mem_of_getElem? (i := 5) rfl)) at_397 (pc' := 400) rfl ?_
    refine g_land C at_400 (pc' := 401) rfl ?_
    refine g_l2i C at_401 (pc' := 402) rfl ?_
    refine g_i2b C at_402 (pc' := 403) rfl ?_
    refine g_bastore C A (n32_nn (by omega)) (n32_lt (n := 128) (by omega) (by omega)) at_403 (pc' := 404) rfl gb (fun h87 W88 A' => ?_)
    have X := X.wr W88 gb
    have A : Arf Z h87 bt "[B" .byte (128 : Int32) (upd (fun j => .int (F j)) (Int32.ofNat (s + 0)).toNatClampNeg (.int (nar .byte (((((q4.toUInt64 >>> ((32 : Int32) &&& 0x3f).toInt64.toUInt64).toInt64) &&& (127 : Int64)).toInt32).toInt8.toInt32)))) := A'
    have A : Arf Z h87 bt "[B" .byte (128 : Int32) (fun j => .int ((own_w F (s + 0) (nar .byte (((((q4.toUInt64 >>> ((32 : Int32) &&& 0x3f).toInt64.toUInt64).toInt64) &&& (127 : Int64)).toInt32).toInt8.toInt32))) j)) := A.congr fun j _ => own_wr (by omega) (nar .byte (((((q4.toUInt64 >>> ((32 : Int32) &&& 0x3f).toInt64.toUInt64).toInt64) &&& (127 : Int64)).toInt32).toInt8.toInt32)) j
    exact f404_0z (C := C) hw p0 p1 p2 p3 q4 kx G1 sl M G3 kd cs u8 iso bt s m (own_w F (s + 0) (nar .byte (((((q4.toUInt64 >>> ((32 : Int32) &&& 0x3f).toInt64.toUInt64).toInt64) &&& (127 : Int64)).toInt32).toInt8.toInt32))) CW Fd O2 P5 Ou Oi Oa ne_cs_u8 ne_cs_iso Ecs O4 rG3 Os hh hcw hI hPN X A gb (own_okw hF (own_v7 _)) 
set_option maxRecDepth 65536 in
set_option maxHeartbeats 40000000 in
theorem f404_0 {l : Launch} {Z : State} {a0 : Array Value} (hw : ∀ d ∈ tables_1, d.before a0 Z = true) {w : Wk} {n0 : Nat} {h0 : Heap} {Y : State → Outcome → Prop} (p0 p1 p2 p3 : Int32) (q4 : Int64) (kx G1 sl M : Int32) (G3 : Value) (kd cs u8 iso bt : Addr) (s N m : Nat) (F : Nat → Int32) (C : Cx w Z "com/example/longhaul/longhaul/FieldFormatReadPinLaw" code 24 (some .boolean) "law" room_1 n0 (fun v _ => v = some (.int 1)) Y) (CW : LvW w room_1 n0 (fun v _ => v = some (.int 1)) Y) (Fd : Fld Z Z.heap kd "com/example/longhaul/longhaul/Iso8583AsciiCodec$LengthKind" "digits" "I" (.int 0)) (O2 : Sta Z Z.heap "java/lang/String" "COMPACT_STRINGS" "Z" (.int G1)) (P5 : ¬ G1 = 0) (Ou : Sta Z Z.heap "sun/nio/cs/UTF_8" "INSTANCE" "Lsun/nio/cs/UTF_8;" (.ref u8)) (Oi : Sta Z Z.heap "sun/nio/cs/ISO_8859_1" "INSTANCE" "Lsun/nio/cs/ISO_8859_1;" (.ref iso)) (Oa : Sta Z Z.heap "sun/nio/cs/US_ASCII" "INSTANCE" "Lsun/nio/cs/US_ASCII;" (.ref cs)) (ne_cs_u8 : cs ≠ u8) (ne_cs_iso : cs ≠ iso) (Ecs : Exa Z Z.heap cs "sun/nio/cs/US_ASCII") (O4 : Sta Z Z.heap "jdk/internal/util/Preconditions" "SIOOBE_FORMATTER" "Ljava/util/function/BiFunction;" G3) (rG3 : G3.isRef = true) (Os : Sta Z Z.heap "java/nio/charset/StandardCharsets" "US_ASCII" "Ljava/nio/charset/Charset;" (.ref cs)) (hh : Jvm.Lit.constHeld Z "java/lang/String" 7) (hcw : Jvm.Lit.compactW.before a0 Z = true) (hI : w.s.vm.interned = Z.vm.interned) (hPN : s + N ≤ 128) (h1 : 1 ≤ N) (hm : m < N) (hN : N ≤ 128) (X : Old Z n0 h0) (A : Arf Z h0 bt "[B" .byte (128 : Int32) (fun j => .int (F j))) (gb : n0 ≤ bt) (hF : own_ok F)  :
    Go w l room_1 n0 Y h0 1 128 404 #[.val (.int p0), .val (.int p1), .val (.int p2), .val (.int p3), .val (.long q4), .second, .val (.int kx), .val (.ref kd), .val (.int (0 : Int32)), .val (.int (128 : Int32)), .val (.int (Int32.ofNat N)), .val (.int (Int32.ofNat (128 - N))), .val (.int (Int32.ofNat s)), .val (.int (Int32.ofNat s)), .val (.int sl), .val (.int (Int32.ofNat N)), .val (.ref bt), .val (.int (Int32.ofNat m)), .unset, .unset, .unset, .unset, .unset, .unset] [] := by
  refine g_iconst C (z := (4 : Int32)) at_404 (pc' := 405) rfl rfl ?_
  refine g_anewarr C (ad := "[Ljava/lang/String;") (cap := 4) (hw _ (List.mem_of_getElem? (i := 6) rfl)) (hw _ (List.mem_of_getElem? (i := 7) rfl)) at_405 (pc' := 408) rfl rfl (by decide) (by decide) (by decide) (k' := 2) (n' := 132) rfl rfl (by decide) (by decide) ?_
  intro h89 b89 E89 fb89 gb89 A89 V89
  have ne_bt_b89 : bt ≠ b89 := Nat.ne_of_lt (Nat.lt_of_lt_of_le A.lt fb89)
  have A := A.ext E89
  have X := X.ext E89
  refine g_astore C at_408 (pc' := 410) rfl rfl (Ls' := #[.val (.int p0), .val (.int p1), .val (.int p2), .val (.int p3), .val (.long q4), .second, .val (.int kx), .val (.ref kd), .val (.int (0 : Int32)), .val (.int (128 : Int32)), .val (.int (Int32.ofNat N)), .val (.int (Int32.ofNat (128 - N))), .val (.int (Int32.ofNat s)), .val (.int (Int32.ofNat s)), .val (.int sl), .val (.int (Int32.ofNat N)), .val (.ref bt), .val (.int (Int32.ofNat m)), .val (.ref b89), .unset, .unset, .unset, .unset, .unset]) rfl ?_
  refine g_iloadN C at_410 (pc' := 411) rfl rfl ?_
  refine g_iconst C (z := (3 : Int32)) at_411 (pc' := 412) rfl rfl ?_
  refine g_iand C at_412 (pc' := 413) rfl ?_
  refine g_istore C at_413 (pc' := 415) rfl (Ls' := #[.val (.int p0), .val (.int p1), .val (.int p2), .val (.int p3), .val (.long q4), .second, .val (.int kx), .val (.ref kd), .val (.int (0 : Int32)), .val (.int (128 : Int32)), .val (.int (Int32.ofNat N)), .val (.int (Int32.ofNat (128 - N))), .val (.int (Int32.ofNat s)), .val (.int (Int32.ofNat s)), .val (.int sl), .val (.int (Int32.ofNat N)), .val (.ref bt), .val (.int (Int32.ofNat m)), .val (.ref b89), .val (.int (p3 &&& (3 : Int32))), .unset, .unset, .unset, .unset]) rfl ?_
  refine g_new C (hw _ (List.mem_of_getElem? (i := 8) rfl)) (hw _ (List.mem_of_getElem? (i := 9) rfl)) (hw _ (List.mem_of_getElem? (i := 10) rfl)) at_415 (pc' := 418) rfl (k' := 3) (n' := 134) rfl rfl (by decide) (by decide) ?_
  intro h90 b90 E90 fb90 gb90 A90 D90
  have ne_bt_b90 : bt ≠ b90 := Nat.ne_of_lt (Nat.lt_of_lt_of_le A.lt fb90)
  have ne_b89_b90 : b89 ≠ b90 := Nat.ne_of_lt (Nat.lt_of_lt_of_le A89.lt fb90)
  have A := A.ext E90
  have X := X.ext E90
  have A89 := A89.ext E90
  have F90_kind : Fld Z h90 b90 "com/example/longhaul/longhaul/Iso8583AsciiCodec$FieldFormat" "kind" "Lcom/example/longhaul/longhaul/Iso8583AsciiCodec$LengthKind;" .null := D90 (Or.inr (hw _ (List.mem_of_getElem? (i := 23) rfl))) (ty := (.object "com/example/longhaul/longhaul/Iso8583AsciiCodec$LengthKind")) (by decide)
  have F90_maxLength : Fld Z h90 b90 "com/example/longhaul/longhaul/Iso8583AsciiCodec$FieldFormat" "maxLength" "I" (.int (0 : Int32)) := D90 (Or.inr (hw _ (List.mem_of_getElem? (i := 25) rfl))) (ty := .int) (by decide)
  refine g_dup C at_418 (pc' := 419) rfl rfl ?_
  refine g_aload C at_419 (pc' := 421) rfl rfl rfl ?_
  refine g_iload C at_421 (pc' := 423) rfl rfl ?_
  refine g_special (rm := R_s_ff) (a := b90) C (y := (⟨"com/example/longhaul/longhaul/Iso8583AsciiCodec$FieldFormat", "<init>", "(Lcom/example/longhaul/longhaul/Iso8583AsciiCodec$LengthKind;I)V"⟩ : MethodName)) rfl (hw _ (List.mem_of_getElem? (i := 11) rfl)) (hw _ (List.mem_of_getElem? (i := 12) rfl)) (hw _ (List.mem_of_getElem? (i := 13) rfl)) (by decide) at_423 (pc' := 426) rfl (argsL := [(.ref kd), (.int (Int32.ofNat N))]) (rest := [(.ref b90)]) (lenOf pd_17 rfl) rfl (W := 1) (Nat.le_of_eq rfl) rfl (fun hn9 => Met.back (rm := R_s_ff) (s_ff hw b90 kd (Int32.ofNat N) F90_kind F90_maxLength A90 gb90) hn9 C.hZ (hw _ (List.mem_of_getElem? (i := 13) rfl)) (hw _ (List.mem_of_getElem? (i := 10) rfl)) (by decide) (by decide)) (k' := 3) (n' := 134) rfl rfl (by decide) (by decide) ?_
  rintro _ h91 ⟨rfl, Kf, Ef, Fk, Fm⟩
  have A := A.keep Kf (ninS ne_bt_b90 nin0)
  have X := X.keep Kf (allS gb90 all0)
  have A89 := A89.keep Kf (ninS ne_b89_b90 nin0)
  show Go w l _ n0 _ h91 3 134 426 #[.val (.int p0), .val (.int p1), .val (.int p2), .val (.int p3), .val (.long q4), .second, .val (.int kx), .val (.ref kd), .val (.int (0 : Int32)), .val (.int (128 : Int32)), .val (.int (Int32.ofNat N)), .val (.int (Int32.ofNat (128 - N))), .val (.int (Int32.ofNat s)), .val (.int (Int32.ofNat s)), .val (.int sl), .val (.int (Int32.ofNat N)), .val (.ref bt), .val (.int (Int32.ofNat m)), .val (.ref b89), .val (.int (p3 &&& (3 : Int32))), .unset, .unset, .unset, .unset] [(.ref b90)]
  refine g_astore C at_426 (pc' := 428) rfl rfl (Ls' := #[.val (.int p0), .val (.int p1), .val (.int p2), .val (.int p3), .val (.long q4), .second, .val (.int kx), .val (.ref kd), .val (.int (0 : Int32)), .val (.int (128 : Int32)), .val (.int (Int32.ofNat N)), .val (.int (Int32.ofNat (128 - N))), .val (.int (Int32.ofNat s)), .val (.int (Int32.ofNat s)), .val (.int sl), .val (.int (Int32.ofNat N)), .val (.ref bt), .val (.int (Int32.ofNat m)), .val (.ref b89), .val (.int (p3 &&& (3 : Int32))), .val (.ref b90), .unset, .unset, .unset]) rfl ?_
  refine g_aload C at_428 (pc' := 430) rfl rfl rfl ?_
  refine g_iloadN C at_430 (pc' := 431) rfl rfl ?_
  refine g_aload C at_431 (pc' := 433) rfl rfl rfl ?_
  refine g_iload C at_433 (pc' := 435) rfl rfl ?_
  refine g_aload C at_435 (pc' := 437) rfl rfl rfl ?_
  refine g_iload C at_437 (pc' := 439) rfl rfl ?_
  refine g_virtual (rm := R_rd0) (a := b90) C (y := (⟨"com/example/longhaul/longhaul/Iso8583AsciiCodec$FieldFormat", "read", "(I[BI[Ljava/lang/String;I)I"⟩ : MethodName)) (y' := (⟨"com/example/longhaul/longhaul/Iso8583AsciiCodec$FieldFormat", "read", "(I[BI[Ljava/lang/String;I)I"⟩ : MethodName)) (hw _ (List.mem_of_getElem? (i := 26) rfl)) (hw _ (List.mem_of_getElem? (i := 27) rfl)) (g_nf C (hw _ (List.mem_of_getElem? (i := 29) rfl))) (hw _ (List.mem_of_getElem? (i := 29) rfl)) (hw _ (List.mem_of_getElem? (i := 28) rfl)) (by decide) Ef at_439 (pc' := 442) rfl (argsL := [(.int p3), (.ref bt), (.int (Int32.ofNat s)), (.ref b89), (.int (p3 &&& (3 : Int32)))]) (rest := []) (lenOf pd_18 rfl) rfl (W := 0) (Nat.le_of_eq rfl) rfl (fun hn9 => Met.back (rm := R_rd0) (rd0 hw b90 kd bt b89 cs u8 iso s N F M (p3 &&& 3) p3 G1 G3 Fk Fm (Fd.ext X.2) A A89 V89 gb89 ne_bt_b89 (own_i3 p3).1 (own_i3 p3).2 hF hPN O2 P5 Ou Oi Oa ne_cs_u8 ne_cs_iso X (Ecs.ext X.2) O4 rG3 Os   h1) hn9 C.hZ (hw _ (List.mem_of_getElem? (i := 30) rfl)) (hw _ (List.mem_of_getElem? (i := 10) rfl)) (by decide) (by decide)) (k' := 5) (n' := 266) rfl rfl (by decide) (by decide) ?_
  rintro _ h9 ⟨x, rfl, X, A, Vs, E, t2, Fc, Fv, B⟩
  show Go w l _ n0 _ h9 5 266 442 #[.val (.int p0), .val (.int p1), .val (.int p2), .val (.int p3), .val (.long q4), .second, .val (.int kx), .val (.ref kd), .val (.int (0 : Int32)), .val (.int (128 : Int32)), .val (.int (Int32.ofNat N)), .val (.int (Int32.ofNat (128 - N))), .val (.int (Int32.ofNat s)), .val (.int (Int32.ofNat s)), .val (.int sl), .val (.int (Int32.ofNat N)), .val (.ref bt), .val (.int (Int32.ofNat m)), .val (.ref b89), .val (.int (p3 &&& (3 : Int32))), .val (.ref b90), .unset, .unset, .unset] [(.int (Int32.ofNat (s + N)))]
  refine g_istore C at_442 (pc' := 444) rfl (Ls' := #[.val (.int p0), .val (.int p1), .val (.int p2), .val (.int p3), .val (.long q4), .second, .val (.int kx), .val (.ref kd), .val (.int (0 : Int32)), .val (.int (128 : Int32)), .val (.int (Int32.ofNat N)), .val (.int (Int32.ofNat (128 - N))), .val (.int (Int32.ofNat s)), .val (.int (Int32.ofNat s)), .val (.int sl), .val (.int (Int32.ofNat N)), .val (.ref bt), .val (.int (Int32.ofNat m)), .val (.ref b89), .val (.int (p3 &&& (3 : Int32))), .val (.ref b90), .val (.int (Int32.ofNat (s + N))), .unset, .unset]) rfl ?_
  refine g_aload C at_444 (pc' := 446) rfl rfl rfl ?_
  refine g_iload C at_446 (pc' := 448) rfl rfl ?_
  refine g_aaload C rfl (v := (.ref x)) Vs (own_i3 p3).1 (own_i3 p3).2 (upd_same _ _ _) at_448 (pc' := 449) rfl ?_
  refine g_astore C at_449 (pc' := 451) rfl rfl (Ls' := #[.val (.int p0), .val (.int p1), .val (.int p2), .val (.int p3), .val (.long q4), .second, .val (.int kx), .val (.ref kd), .val (.int (0 : Int32)), .val (.int (128 : Int32)), .val (.int (Int32.ofNat N)), .val (.int (Int32.ofNat (128 - N))), .val (.int (Int32.ofNat s)), .val (.int (Int32.ofNat s)), .val (.int sl), .val (.int (Int32.ofNat N)), .val (.ref bt), .val (.int (Int32.ofNat m)), .val (.ref b89), .val (.int (p3 &&& (3 : Int32))), .val (.ref b90), .val (.int (Int32.ofNat (s + N))), .val (.ref x), .unset]) rfl ?_
  exact e451_0 (C := C) hw p0 p1 p2 p3 q4 kx (Int32.ofNat (128 - N)) sl (Int32.ofNat N) (p3 &&& 3) G1 G3 kd bt b89 b90 x t2 s N m F CW A Vs E Fc Fv B hF hPN (own_i3 p3).1 O2 P5 X O4 rG3 h1 hm
set_option maxRecDepth 65536 in
set_option maxHeartbeats 40000000 in
theorem f374_0 {l : Launch} {Z : State} {a0 : Array Value} (hw : ∀ d ∈ tables_1, d.before a0 Z = true) {w : Wk} {n0 : Nat} {h0 : Heap} {Y : State → Outcome → Prop} (p0 p1 p2 p3 : Int32) (q4 : Int64) (kx G1 sl M : Int32) (G3 : Value) (kd cs u8 iso bt : Addr) (s N m : Nat) (F : Nat → Int32) (C : Cx w Z "com/example/longhaul/longhaul/FieldFormatReadPinLaw" code 24 (some .boolean) "law" room_1 n0 (fun v _ => v = some (.int 1)) Y) (CW : LvW w room_1 n0 (fun v _ => v = some (.int 1)) Y) (Fd : Fld Z Z.heap kd "com/example/longhaul/longhaul/Iso8583AsciiCodec$LengthKind" "digits" "I" (.int 0)) (O2 : Sta Z Z.heap "java/lang/String" "COMPACT_STRINGS" "Z" (.int G1)) (P5 : ¬ G1 = 0) (Ou : Sta Z Z.heap "sun/nio/cs/UTF_8" "INSTANCE" "Lsun/nio/cs/UTF_8;" (.ref u8)) (Oi : Sta Z Z.heap "sun/nio/cs/ISO_8859_1" "INSTANCE" "Lsun/nio/cs/ISO_8859_1;" (.ref iso)) (Oa : Sta Z Z.heap "sun/nio/cs/US_ASCII" "INSTANCE" "Lsun/nio/cs/US_ASCII;" (.ref cs)) (ne_cs_u8 : cs ≠ u8) (ne_cs_iso : cs ≠ iso) (Ecs : Exa Z Z.heap cs "sun/nio/cs/US_ASCII") (O4 : Sta Z Z.heap "jdk/internal/util/Preconditions" "SIOOBE_FORMATTER" "Ljava/util/function/BiFunction;" G3) (rG3 : G3.isRef = true) (Os : Sta Z Z.heap "java/nio/charset/StandardCharsets" "US_ASCII" "Ljava/nio/charset/Charset;" (.ref cs)) (hh : Jvm.Lit.constHeld Z "java/lang/String" 7) (hcw : Jvm.Lit.compactW.before a0 Z = true) (hI : w.s.vm.interned = Z.vm.interned) (hPN : s + N ≤ 128) (h1 : 1 ≤ N) (hm : m < N) (hN : N ≤ 128) (X : Old Z n0 h0) (A : Arf Z h0 bt "[B" .byte (128 : Int32) (fun j => .int (F j))) (gb : n0 ≤ bt) (hF : own_ok F)  :
    Go w l room_1 n0 Y h0 1 128 374 #[.val (.int p0), .val (.int p1), .val (.int p2), .val (.int p3), .val (.long q4), .second, .val (.int kx), .val (.ref kd), .val (.int (0 : Int32)), .val (.int (128 : Int32)), .val (.int (Int32.ofNat N)), .val (.int (Int32.ofNat (128 - N))), .val (.int (Int32.ofNat s)), .val (.int (Int32.ofNat s)), .val (.int sl), .val (.int (Int32.ofNat N)), .val (.ref bt), .val (.int (Int32.ofNat m)), .unset, .unset, .unset, .unset, .unset, .unset] [] := by
  refine g_iload C at_374 (pc' := 376) rfl rfl ?_
  refine g_iload C at_376 (pc' := 378) rfl rfl ?_
  refine g_iadd C at_378 (pc' := 379) rfl ?_
  rw [← Int32.ofNat_add]
  show Go w l _ n0 _ h0 1 128 379 #[.val (.int p0), .val (.int p1), .val (.int p2), .val (.int p3), .val (.long q4), .second, .val (.int kx), .val (.ref kd), .val (.int (0 : Int32)), .val (.int (128 : Int32)), .val (.int (Int32.ofNat N)), .val (.int (Int32.ofNat (128 - N))), .val (.int (Int32.ofNat s)), .val (.int (Int32.ofNat s)), .val (.int sl), .val (.int (Int32.ofNat N)), .val (.ref bt), .val (.int (Int32.ofNat m)), .unset, .unset, .unset, .unset, .unset, .unset] [(.int (Int32.ofNat (s + N)))]
  refine g_sipush C (z := (128 : Int32)) at_379 (pc' := 382) rfl rfl ?_
  refine g_icmp_ge C at_382 (by decide) (pc' := 404) (by decide) (pcN := 385) rfl (fun q382 => ?_) (fun q382 => ?_)
  · exact f404_0 (C := C) hw p0 p1 p2 p3 q4 kx G1 sl M G3 kd cs u8 iso bt s N m F CW Fd O2 P5 Ou Oi Oa ne_cs_u8 ne_cs_iso Ecs O4 rG3 Os hh hcw hI hPN h1 hm hN X A gb hF 
  · have z382 : s + N < 128 := own_ge128 q382 (by omega)
    refine g_aload C at_385 (pc' := 387) rfl rfl rfl ?_
    refine g_iload C at_387 (pc' := 389) rfl rfl ?_
    refine g_iload C at_389 (pc' := 391) rfl rfl ?_
    refine g_iadd C at_391 (pc' := 392) rfl ?_
    rw [← Int32.ofNat_add]
    show Go w l _ n0 _ h0 1 128 392 #[.val (.int p0), .val (.int p1), .val (.int p2), .val (.int p3), .val (.long q4), .second, .val (.int kx), .val (.ref kd), .val (.int (0 : Int32)), .val (.int (128 : Int32)), .val (.int (Int32.ofNat N)), .val (.int (Int32.ofNat (128 - N))), .val (.int (Int32.ofNat s)), .val (.int (Int32.ofNat s)), .val (.int sl), .val (.int (Int32.ofNat N)), .val (.ref bt), .val (.int (Int32.ofNat m)), .unset, .unset, .unset, .unset, .unset, .unset] [(.int (Int32.ofNat (s + N))), (.ref bt)]
    refine g_lload C at_392 (pc' := 394) rfl rfl ?_
    refine g_bipush C (z := (32 : Int32)) at_394 (pc' := 396) rfl rfl ?_
    refine g_lushr C at_396 (pc' := 397) rfl ?_
    refine g_ldc2J C (hw _ (List.mem_of_getElem? (i := 5) rfl)) at_397 (pc' := 400) rfl ?_
    refine g_land C at_400 (pc' := 401) rfl ?_
    refine g_l2i C at_401 (pc' := 402) rfl ?_
    refine g_i2b C at_402 (pc' := 403) rfl ?_
    refine g_bastore C A (n32_nn (by omega)) (n32_lt (n := 128) (by omega) (by omega)) at_403 (pc' := 404) rfl gb (fun h92 W93 A' => ?_)
    have X := X.wr W93 gb
    have A : Arf Z h92 bt "[B" .byte (128 : Int32) (upd (fun j => .int (F j)) (Int32.ofNat (s + N)).toNatClampNeg (.int (nar .byte (((((q4.toUInt64 >>> ((32 : Int32) &&& 0x3f).toInt64.toUInt64).toInt64) &&& (127 : Int64)).toInt32).toInt8.toInt32)))) := A'
    have A : Arf Z h92 bt "[B" .byte (128 : Int32) (fun j => .int ((own_w F (s + N) (nar .byte (((((q4.toUInt64 >>> ((32 : Int32) &&& 0x3f).toInt64.toUInt64).toInt64) &&& (127 : Int64)).toInt32).toInt8.toInt32))) j)) := A.congr fun j _ => own_wr (by omega) (nar .byte (((((q4.toUInt64 >>> ((32 : Int32) &&& 0x3f).toInt64.toUInt64).toInt64) &&& (127 : Int64)).toInt32).toInt8.toInt32)) j
    exact f404_0 (C := C) hw p0 p1 p2 p3 q4 kx G1 sl M G3 kd cs u8 iso bt s N m (own_w F (s + N) (nar .byte (((((q4.toUInt64 >>> ((32 : Int32) &&& 0x3f).toInt64.toUInt64).toInt64) &&& (127 : Int64)).toInt32).toInt8.toInt32))) CW Fd O2 P5 Ou Oi Oa ne_cs_u8 ne_cs_iso Ecs O4 rG3 Os hh hcw hI hPN h1 hm hN X A gb (own_okw hF (own_v7 _)) 
set_option maxRecDepth 65536 in
set_option maxHeartbeats 40000000 in
theorem f404_2z {l : Launch} {Z : State} {a0 : Array Value} (hw : ∀ d ∈ tables_1, d.before a0 Z = true) {w : Wk} {n0 : Nat} {h0 : Heap} {Y : State → Outcome → Prop} (p0 p1 p2 p3 : Int32) (q4 : Int64) (kx G1 sl M : Int32) (G3 : Value) (kd cs u8 iso bt : Addr) (s m : Nat) (F : Nat → Int32) (C : Cx w Z "com/example/longhaul/longhaul/FieldFormatReadPinLaw" code 24 (some .boolean) "law" room_1 n0 (fun v _ => v = some (.int 1)) Y) (CW : LvW w room_1 n0 (fun v _ => v = some (.int 1)) Y) (Fd : Fld Z Z.heap kd "com/example/longhaul/longhaul/Iso8583AsciiCodec$LengthKind" "digits" "I" (.int 2)) (O2 : Sta Z Z.heap "java/lang/String" "COMPACT_STRINGS" "Z" (.int G1)) (P5 : ¬ G1 = 0) (Ou : Sta Z Z.heap "sun/nio/cs/UTF_8" "INSTANCE" "Lsun/nio/cs/UTF_8;" (.ref u8)) (Oi : Sta Z Z.heap "sun/nio/cs/ISO_8859_1" "INSTANCE" "Lsun/nio/cs/ISO_8859_1;" (.ref iso)) (Oa : Sta Z Z.heap "sun/nio/cs/US_ASCII" "INSTANCE" "Lsun/nio/cs/US_ASCII;" (.ref cs)) (ne_cs_u8 : cs ≠ u8) (ne_cs_iso : cs ≠ iso) (Ecs : Exa Z Z.heap cs "sun/nio/cs/US_ASCII") (O4 : Sta Z Z.heap "jdk/internal/util/Preconditions" "SIOOBE_FORMATTER" "Ljava/util/function/BiFunction;" G3) (rG3 : G3.isRef = true) (Os : Sta Z Z.heap "java/nio/charset/StandardCharsets" "US_ASCII" "Ljava/nio/charset/Charset;" (.ref cs)) (hh : Jvm.Lit.constHeld Z "java/lang/String" 7) (hcw : Jvm.Lit.compactW.before a0 Z = true) (hI : w.s.vm.interned = Z.vm.interned) (hPN : (s + 2) + 0 ≤ 128) (hM : ¬ M < Int32.ofNat 0) (X : Old Z n0 h0) (A : Arf Z h0 bt "[B" .byte (128 : Int32) (fun j => .int (F j))) (gb : n0 ≤ bt) (hF : own_ok F) (hg0 : F s = own_dg (Int32.ofNat 0 / 10)) (hg1 : F (s + 1) = own_dg (Int32.ofNat 0 % 10)) :
    Go w l room_1 n0 Y h0 1 128 404 #[.val (.int p0), .val (.int p1), .val (.int p2), .val (.int p3), .val (.long q4), .second, .val (.int kx), .val (.ref kd), .val (.int (2 : Int32)), .val (.int (99 : Int32)), .val (.int (Int32.ofNat 0)), .val (.int (Int32.ofNat (126 - 0))), .val (.int (Int32.ofNat s)), .val (.int (Int32.ofNat (s + 2))), .val (.int sl), .val (.int M), .val (.ref bt), .val (.int (Int32.ofNat m)), .unset, .unset, .unset, .unset, .unset, .unset] [] := by
  refine g_iconst C (z := (4 : Int32)) at_404 (pc' := 405) rfl rfl ?_
  refine g_anewarr C (ad := "[Ljava/lang/String;") (cap := 4) (hw _ (List.mem_of_getElem? (i := 6) rfl)) (hw _ (List.mem_of_getElem? (i := 7) rfl)) at_405 (pc' := 408) rfl rfl (by decide) (by decide) (by decide) (k' := 2) (n' := 132) rfl rfl (by decide) (by decide) ?_
  intro h94 b94 E94 fb94 gb94 A94 V94
  have ne_bt_b94 : bt ≠ b94 := Nat.ne_of_lt (Nat.lt_of_lt_of_le A.lt fb94)
  have A := A.ext E94
  have X := X.ext E94
  refine g_astore C at_408 (pc' := 410) rfl rfl (Ls' := #[.val (.int p0), .val (.int p1), .val (.int p2), .val (.int p3), .val (.long q4), .second, .val (.int kx), .val (.ref kd), .val (.int (2 : Int32)), .val (.int (99 : Int32)), .val (.int (Int32.ofNat 0)), .val (.int (Int32.ofNat (126 - 0))), .val (.int (Int32.ofNat s)), .val (.int (Int32.ofNat (s + 2))), .val (.int sl), .val (.int M), .val (.ref bt), .val (.int (Int32.ofNat m)), .val (.ref b94), .unset, .unset, .unset, .unset, .unset]) rfl ?_
  refine g_iloadN C at_410 (pc' := 411) rfl rfl ?_
  refine g_iconst C (z := (3 : Int32)) at_411 (pc' := 412) rfl rfl ?_
  refine g_iand C at_412 (pc' := 413) rfl ?_
  refine g_istore C at_413 (pc' := 415) rfl (Ls' := #[.val (.int p0), .val (.int p1), .val (.int p2), .val (.int p3), .val (.long q4), .second, .val (.int kx), .val (.ref kd), .val (.int (2 : Int32)), .val (.int (99 : Int32)), .val (.int (Int32.ofNat 0)), .val (.int (Int32.ofNat (126 - 0))), .val (.int (Int32.ofNat s)), .val (.int (Int32.ofNat (s + 2))), .val (.int sl), .val (.int M), .val (.ref bt), .val (.int (Int32.ofNat m)), .val (.ref b94), .val (.int (p3 &&& (3 : Int32))), .unset, .unset, .unset, .unset]) rfl ?_
  refine g_new C (hw _ (List.mem_of_getElem? (i := 8) rfl)) (hw _ (List.mem_of_getElem? (i := 9) rfl)) (hw _ (List.mem_of_getElem? (i := 10) rfl)) at_415 (pc' := 418) rfl (k' := 3) (n' := 134) rfl rfl (by decide) (by decide) ?_
  intro h95 b95 E95 fb95 gb95 A95 D95
  have ne_bt_b95 : bt ≠ b95 := Nat.ne_of_lt (Nat.lt_of_lt_of_le A.lt fb95)
  have ne_b94_b95 : b94 ≠ b95 := Nat.ne_of_lt (Nat.lt_of_lt_of_le A94.lt fb95)
  have A := A.ext E95
  have X := X.ext E95
  have A94 := A94.ext E95
  have F95_kind : Fld Z h95 b95 "com/example/longhaul/longhaul/Iso8583AsciiCodec$FieldFormat" "kind" "Lcom/example/longhaul/longhaul/Iso8583AsciiCodec$LengthKind;" .null := D95 (Or.inr (hw _ (List.mem_of_getElem? (i := 23) rfl))) (ty := (.object "com/example/longhaul/longhaul/Iso8583AsciiCodec$LengthKind")) (by decide)
  have F95_maxLength : Fld Z h95 b95 "com/example/longhaul/longhaul/Iso8583AsciiCodec$FieldFormat" "maxLength" "I" (.int (0 : Int32)) := D95 (Or.inr (hw _ (List.mem_of_getElem? (i := 25) rfl))) (ty := .int) (by decide)
  refine g_dup C at_418 (pc' := 419) rfl rfl ?_
  refine g_aload C at_419 (pc' := 421) rfl rfl rfl ?_
  refine g_iload C at_421 (pc' := 423) rfl rfl ?_
  refine g_special (rm := R_s_ff) (a := b95) C (y := (⟨"com/example/longhaul/longhaul/Iso8583AsciiCodec$FieldFormat", "<init>", "(Lcom/example/longhaul/longhaul/Iso8583AsciiCodec$LengthKind;I)V"⟩ : MethodName)) rfl (hw _ (List.mem_of_getElem? (i := 11) rfl)) (hw _ (List.mem_of_getElem? (i := 12) rfl)) (hw _ (List.mem_of_getElem? (i := 13) rfl)) (by decide) at_423 (pc' := 426) rfl (argsL := [(.ref kd), (.int M)]) (rest := [(.ref b95)]) (lenOf pd_17 rfl) rfl (W := 1) (Nat.le_of_eq rfl) rfl (fun hn9 => Met.back (rm := R_s_ff) (s_ff hw b95 kd M F95_kind F95_maxLength A95 gb95) hn9 C.hZ (hw _ (List.mem_of_getElem? (i := 13) rfl)) (hw _ (List.mem_of_getElem? (i := 10) rfl)) (by decide) (by decide)) (k' := 3) (n' := 134) rfl rfl (by decide) (by decide) ?_
  rintro _ h96 ⟨rfl, Kf, Ef, Fk, Fm⟩
  have A := A.keep Kf (ninS ne_bt_b95 nin0)
  have X := X.keep Kf (allS gb95 all0)
  have A94 := A94.keep Kf (ninS ne_b94_b95 nin0)
  show Go w l _ n0 _ h96 3 134 426 #[.val (.int p0), .val (.int p1), .val (.int p2), .val (.int p3), .val (.long q4), .second, .val (.int kx), .val (.ref kd), .val (.int (2 : Int32)), .val (.int (99 : Int32)), .val (.int (Int32.ofNat 0)), .val (.int (Int32.ofNat (126 - 0))), .val (.int (Int32.ofNat s)), .val (.int (Int32.ofNat (s + 2))), .val (.int sl), .val (.int M), .val (.ref bt), .val (.int (Int32.ofNat m)), .val (.ref b94), .val (.int (p3 &&& (3 : Int32))), .unset, .unset, .unset, .unset] [(.ref b95)]
  refine g_astore C at_426 (pc' := 428) rfl rfl (Ls' := #[.val (.int p0), .val (.int p1), .val (.int p2), .val (.int p3), .val (.long q4), .second, .val (.int kx), .val (.ref kd), .val (.int (2 : Int32)), .val (.int (99 : Int32)), .val (.int (Int32.ofNat 0)), .val (.int (Int32.ofNat (126 - 0))), .val (.int (Int32.ofNat s)), .val (.int (Int32.ofNat (s + 2))), .val (.int sl), .val (.int M), .val (.ref bt), .val (.int (Int32.ofNat m)), .val (.ref b94), .val (.int (p3 &&& (3 : Int32))), .val (.ref b95), .unset, .unset, .unset]) rfl ?_
  refine g_aload C at_428 (pc' := 430) rfl rfl rfl ?_
  refine g_iloadN C at_430 (pc' := 431) rfl rfl ?_
  refine g_aload C at_431 (pc' := 433) rfl rfl rfl ?_
  refine g_iload C at_433 (pc' := 435) rfl rfl ?_
  refine g_aload C at_435 (pc' := 437) rfl rfl rfl ?_
  refine g_iload C at_437 (pc' := 439) rfl rfl ?_
  refine g_virtualS (rm := R_rd2z) (a := b95) C CW (y := (⟨"com/example/longhaul/longhaul/Iso8583AsciiCodec$FieldFormat", "read", "(I[BI[Ljava/lang/String;I)I"⟩ : MethodName)) (y' := (⟨"com/example/longhaul/longhaul/Iso8583AsciiCodec$FieldFormat", "read", "(I[BI[Ljava/lang/String;I)I"⟩ : MethodName)) (hw _ (List.mem_of_getElem? (i := 26) rfl)) (hw _ (List.mem_of_getElem? (i := 27) rfl)) (g_nf C (hw _ (List.mem_of_getElem? (i := 29) rfl))) (hw _ (List.mem_of_getElem? (i := 29) rfl)) (hw _ (List.mem_of_getElem? (i := 28) rfl)) (by decide) Ef at_439 (pc' := 442) rfl (argsL := [(.int p3), (.ref bt), (.int (Int32.ofNat s)), (.ref b94), (.int (p3 &&& (3 : Int32)))]) (rest := []) (lenOf pd_18 rfl) rfl (W := 0) (Nat.le_of_eq rfl) rfl (fun hn9 => MetWI.back (rm := R_rd2z) (rd2z hw b95 kd bt b94 cs u8 iso s 0 F M (p3 &&& 3) p3 G1 G3 Fk Fm (Fd.ext X.2) A A94 V94 gb94 ne_bt_b94 (own_i3 p3).1 (own_i3 p3).2 hF hPN O2 P5 Ou Oi Oa ne_cs_u8 ne_cs_iso X (Ecs.ext X.2) O4 rG3 Os (by rw [hg0, own_dgv (by rw [own_q10 (by omega)]; omega), own_q10 (by omega)]; omega) (by rw [hg1, own_dgv (by rw [own_r10 (by omega)]; omega), own_r10 (by omega)]; omega) (own_v2 (by omega) (by rw [hg0, own_dgv (by rw [own_q10 (by omega)]; omega), own_q10 (by omega)]) (by rw [hg1, own_dgv (by rw [own_r10 (by omega)]; omega), own_r10 (by omega)])) hM hh hcw) hn9 C.hZ hI (hw _ (List.mem_of_getElem? (i := 30) rfl)) (hw _ (List.mem_of_getElem? (i := 10) rfl)) (by decide) (by decide)) (k' := 6) (n' := 142) rfl rfl (by decide) (by decide) ?_
  rintro w _ h9 C CW ⟨x, rfl, X, A, Vs, E, t2, Fc, Fv, B⟩
  show Go w l _ n0 _ h9 6 142 442 #[.val (.int p0), .val (.int p1), .val (.int p2), .val (.int p3), .val (.long q4), .second, .val (.int kx), .val (.ref kd), .val (.int (2 : Int32)), .val (.int (99 : Int32)), .val (.int (Int32.ofNat 0)), .val (.int (Int32.ofNat (126 - 0))), .val (.int (Int32.ofNat s)), .val (.int (Int32.ofNat (s + 2))), .val (.int sl), .val (.int M), .val (.ref bt), .val (.int (Int32.ofNat m)), .val (.ref b94), .val (.int (p3 &&& (3 : Int32))), .val (.ref b95), .unset, .unset, .unset] [(.int (Int32.ofNat ((s + 2) + 0)))]
  refine g_istore C at_442 (pc' := 444) rfl (Ls' := #[.val (.int p0), .val (.int p1), .val (.int p2), .val (.int p3), .val (.long q4), .second, .val (.int kx), .val (.ref kd), .val (.int (2 : Int32)), .val (.int (99 : Int32)), .val (.int (Int32.ofNat 0)), .val (.int (Int32.ofNat (126 - 0))), .val (.int (Int32.ofNat s)), .val (.int (Int32.ofNat (s + 2))), .val (.int sl), .val (.int M), .val (.ref bt), .val (.int (Int32.ofNat m)), .val (.ref b94), .val (.int (p3 &&& (3 : Int32))), .val (.ref b95), .val (.int (Int32.ofNat ((s + 2) + 0))), .unset, .unset]) rfl ?_
  refine g_aload C at_444 (pc' := 446) rfl rfl rfl ?_
  refine g_iload C at_446 (pc' := 448) rfl rfl ?_
  refine g_aaload C rfl (v := (.ref x)) Vs (own_i3 p3).1 (own_i3 p3).2 (upd_same _ _ _) at_448 (pc' := 449) rfl ?_
  refine g_astore C at_449 (pc' := 451) rfl rfl (Ls' := #[.val (.int p0), .val (.int p1), .val (.int p2), .val (.int p3), .val (.long q4), .second, .val (.int kx), .val (.ref kd), .val (.int (2 : Int32)), .val (.int (99 : Int32)), .val (.int (Int32.ofNat 0)), .val (.int (Int32.ofNat (126 - 0))), .val (.int (Int32.ofNat s)), .val (.int (Int32.ofNat (s + 2))), .val (.int sl), .val (.int M), .val (.ref bt), .val (.int (Int32.ofNat m)), .val (.ref b94), .val (.int (p3 &&& (3 : Int32))), .val (.ref b95), .val (.int (Int32.ofNat ((s + 2) + 0))), .val (.ref x), .unset]) rfl ?_
  exact e451_2z (C := C) hw p0 p1 p2 p3 q4 kx (Int32.ofNat (126 - 0)) sl M (p3 &&& 3) G1 G3 kd bt b94 b95 x t2 s 0 m F CW A Vs E Fc Fv B hF hPN (own_i3 p3).1 O2 P5 X O4 rG3
set_option maxRecDepth 65536 in
set_option maxHeartbeats 40000000 in
theorem f374_2z {l : Launch} {Z : State} {a0 : Array Value} (hw : ∀ d ∈ tables_1, d.before a0 Z = true) {w : Wk} {n0 : Nat} {h0 : Heap} {Y : State → Outcome → Prop} (p0 p1 p2 p3 : Int32) (q4 : Int64) (kx G1 sl M : Int32) (G3 : Value) (kd cs u8 iso bt : Addr) (s m : Nat) (F : Nat → Int32) (C : Cx w Z "com/example/longhaul/longhaul/FieldFormatReadPinLaw" code 24 (some .boolean) "law" room_1 n0 (fun v _ => v = some (.int 1)) Y) (CW : LvW w room_1 n0 (fun v _ => v = some (.int 1)) Y) (Fd : Fld Z Z.heap kd "com/example/longhaul/longhaul/Iso8583AsciiCodec$LengthKind" "digits" "I" (.int 2)) (O2 : Sta Z Z.heap "java/lang/String" "COMPACT_STRINGS" "Z" (.int G1)) (P5 : ¬ G1 = 0) (Ou : Sta Z Z.heap "sun/nio/cs/UTF_8" "INSTANCE" "Lsun/nio/cs/UTF_8;" (.ref u8)) (Oi : Sta Z Z.heap "sun/nio/cs/ISO_8859_1" "INSTANCE" "Lsun/nio/cs/ISO_8859_1;" (.ref iso)) (Oa : Sta Z Z.heap "sun/nio/cs/US_ASCII" "INSTANCE" "Lsun/nio/cs/US_ASCII;" (.ref cs)) (ne_cs_u8 : cs ≠ u8) (ne_cs_iso : cs ≠ iso) (Ecs : Exa Z Z.heap cs "sun/nio/cs/US_ASCII") (O4 : Sta Z Z.heap "jdk/internal/util/Preconditions" "SIOOBE_FORMATTER" "Ljava/util/function/BiFunction;" G3) (rG3 : G3.isRef = true) (Os : Sta Z Z.heap "java/nio/charset/StandardCharsets" "US_ASCII" "Ljava/nio/charset/Charset;" (.ref cs)) (hh : Jvm.Lit.constHeld Z "java/lang/String" 7) (hcw : Jvm.Lit.compactW.before a0 Z = true) (hI : w.s.vm.interned = Z.vm.interned) (hPN : (s + 2) + 0 ≤ 128) (hM : ¬ M < Int32.ofNat 0) (X : Old Z n0 h0) (A : Arf Z h0 bt "[B" .byte (128 : Int32) (fun j => .int (F j))) (gb : n0 ≤ bt) (hF : own_ok F) (hg0 : F s = own_dg (Int32.ofNat 0 / 10)) (hg1 : F (s + 1) = own_dg (Int32.ofNat 0 % 10)) :
    Go w l room_1 n0 Y h0 1 128 374 #[.val (.int p0), .val (.int p1), .val (.int p2), .val (.int p3), .val (.long q4), .second, .val (.int kx), .val (.ref kd), .val (.int (2 : Int32)), .val (.int (99 : Int32)), .val (.int (Int32.ofNat 0)), .val (.int (Int32.ofNat (126 - 0))), .val (.int (Int32.ofNat s)), .val (.int (Int32.ofNat (s + 2))), .val (.int sl), .val (.int M), .val (.ref bt), .val (.int (Int32.ofNat m)), .unset, .unset, .unset, .unset, .unset, .unset] [] := by
  refine g_iload C at_374 (pc' := 376) rfl rfl ?_
  refine g_iload C at_376 (pc' := 378) rfl rfl ?_
  refine g_iadd C at_378 (pc' := 379) rfl ?_
  rw [← Int32.ofNat_add]
  show Go w l _ n0 _ h0 1 128 379 #[.val (.int p0), .val (.int p1), .val (.int p2), .val (.int p3), .val (.long q4), .second, .val (.int kx), .val (.ref kd), .val (.int (2 : Int32)), .val (.int (99 : Int32)), .val (.int (Int32.ofNat 0)), .val (.int (Int32.ofNat (126 - 0))), .val (.int (Int32.ofNat s)), .val (.int (Int32.ofNat (s + 2))), .val (.int sl), .val (.int M), .val (.ref bt), .val (.int (Int32.ofNat m)), .unset, .unset, .unset, .unset, .unset, .unset] [(.int (Int32.ofNat ((s + 2) + 0)))]
  refine g_sipush C (z := (128 : Int32)) at_379 (pc' := 382) rfl rfl ?_
  refine g_icmp_ge C at_382 (by decide) (pc' := 404) (by decide) (pcN := 385) rfl (fun q382 => ?_) (fun q382 => ?_)
  · exact f404_2z (C := C) hw p0 p1 p2 p3 q4 kx G1 sl M G3 kd cs u8 iso bt s m F CW Fd O2 P5 Ou Oi Oa ne_cs_u8 ne_cs_iso Ecs O4 rG3 Os hh hcw hI hPN hM X A gb hF hg0 hg1
  · have z382 : (s + 2) + 0 < 128 := own_ge128 q382 (by omega)
    refine g_aload C at_385 (pc' := 387) rfl rfl rfl ?_
    refine g_iload C at_387 (pc' := 389) rfl rfl ?_
    refine g_iload C at_389 (pc' := 391) rfl rfl ?_
    refine g_iadd C at_391 (pc' := 392) rfl ?_
    rw [← Int32.ofNat_add]
    show Go w l _ n0 _ h0 1 128 392 #[.val (.int p0), .val (.int p1), .val (.int p2), .val (.int p3), .val (.long q4), .second, .val (.int kx), .val (.ref kd), .val (.int (2 : Int32)), .val (.int (99 : Int32)), .val (.int (Int32.ofNat 0)), .val (.int (Int32.ofNat (126 - 0))), .val (.int (Int32.ofNat s)), .val (.int (Int32.ofNat (s + 2))), .val (.int sl), .val (.int M), .val (.ref bt), .val (.int (Int32.ofNat m)), .unset, .unset, .unset, .unset, .unset, .unset] [(.int (Int32.ofNat ((s + 2) + 0))), (.ref bt)]
    refine g_lload C at_392 (pc' := 394) rfl rfl ?_
    refine g_bipush C (z := (32 : Int32)) at_394 (pc' := 396) rfl rfl ?_
    refine g_lushr C at_396 (pc' := 397) rfl ?_
    refine g_ldc2J C (hw _ (List.mem_of_getElem? (i := 5) rfl)) at_397 (pc' := 400) rfl ?_
    refine g_land C at_400 (pc' := 401) rfl ?_
    refine g_l2i C at_401 (pc' := 402) rfl ?_
    refine g_i2b C at_402 (pc' := 403) rfl ?_
    refine g_bastore C A (n32_nn (by omega)) (n32_lt (n := 128) (by omega) (by omega)) at_403 (pc' := 404) rfl gb (fun h97 W98 A' => ?_)
    have X := X.wr W98 gb
    have A : Arf Z h97 bt "[B" .byte (128 : Int32) (upd (fun j => .int (F j)) (Int32.ofNat ((s + 2) + 0)).toNatClampNeg (.int (nar .byte (((((q4.toUInt64 >>> ((32 : Int32) &&& 0x3f).toInt64.toUInt64).toInt64) &&& (127 : Int64)).toInt32).toInt8.toInt32)))) := A'
    have A : Arf Z h97 bt "[B" .byte (128 : Int32) (fun j => .int ((own_w F ((s + 2) + 0) (nar .byte (((((q4.toUInt64 >>> ((32 : Int32) &&& 0x3f).toInt64.toUInt64).toInt64) &&& (127 : Int64)).toInt32).toInt8.toInt32))) j)) := A.congr fun j _ => own_wr (by omega) (nar .byte (((((q4.toUInt64 >>> ((32 : Int32) &&& 0x3f).toInt64.toUInt64).toInt64) &&& (127 : Int64)).toInt32).toInt8.toInt32)) j
    exact f404_2z (C := C) hw p0 p1 p2 p3 q4 kx G1 sl M G3 kd cs u8 iso bt s m (own_w F ((s + 2) + 0) (nar .byte (((((q4.toUInt64 >>> ((32 : Int32) &&& 0x3f).toInt64.toUInt64).toInt64) &&& (127 : Int64)).toInt32).toInt8.toInt32))) CW Fd O2 P5 Ou Oi Oa ne_cs_u8 ne_cs_iso Ecs O4 rG3 Os hh hcw hI hPN hM X A gb (own_okw hF (own_v7 _)) ((own_wne (by omega)).trans hg0) ((own_wne (by omega)).trans hg1)
set_option maxRecDepth 65536 in
set_option maxHeartbeats 40000000 in
theorem f404_2 {l : Launch} {Z : State} {a0 : Array Value} (hw : ∀ d ∈ tables_1, d.before a0 Z = true) {w : Wk} {n0 : Nat} {h0 : Heap} {Y : State → Outcome → Prop} (p0 p1 p2 p3 : Int32) (q4 : Int64) (kx G1 sl M : Int32) (G3 : Value) (kd cs u8 iso bt : Addr) (s N m : Nat) (F : Nat → Int32) (C : Cx w Z "com/example/longhaul/longhaul/FieldFormatReadPinLaw" code 24 (some .boolean) "law" room_1 n0 (fun v _ => v = some (.int 1)) Y) (CW : LvW w room_1 n0 (fun v _ => v = some (.int 1)) Y) (Fd : Fld Z Z.heap kd "com/example/longhaul/longhaul/Iso8583AsciiCodec$LengthKind" "digits" "I" (.int 2)) (O2 : Sta Z Z.heap "java/lang/String" "COMPACT_STRINGS" "Z" (.int G1)) (P5 : ¬ G1 = 0) (Ou : Sta Z Z.heap "sun/nio/cs/UTF_8" "INSTANCE" "Lsun/nio/cs/UTF_8;" (.ref u8)) (Oi : Sta Z Z.heap "sun/nio/cs/ISO_8859_1" "INSTANCE" "Lsun/nio/cs/ISO_8859_1;" (.ref iso)) (Oa : Sta Z Z.heap "sun/nio/cs/US_ASCII" "INSTANCE" "Lsun/nio/cs/US_ASCII;" (.ref cs)) (ne_cs_u8 : cs ≠ u8) (ne_cs_iso : cs ≠ iso) (Ecs : Exa Z Z.heap cs "sun/nio/cs/US_ASCII") (O4 : Sta Z Z.heap "jdk/internal/util/Preconditions" "SIOOBE_FORMATTER" "Ljava/util/function/BiFunction;" G3) (rG3 : G3.isRef = true) (Os : Sta Z Z.heap "java/nio/charset/StandardCharsets" "US_ASCII" "Ljava/nio/charset/Charset;" (.ref cs)) (hh : Jvm.Lit.constHeld Z "java/lang/String" 7) (hcw : Jvm.Lit.compactW.before a0 Z = true) (hI : w.s.vm.interned = Z.vm.interned) (hPN : (s + 2) + N ≤ 128) (h1 : 1 ≤ N) (hm : m < N) (hN : N ≤ 99) (hM : ¬ M < Int32.ofNat N) (X : Old Z n0 h0) (A : Arf Z h0 bt "[B" .byte (128 : Int32) (fun j => .int (F j))) (gb : n0 ≤ bt) (hF : own_ok F) (hg0 : F s = own_dg (Int32.ofNat N / 10)) (hg1 : F (s + 1) = own_dg (Int32.ofNat N % 10)) :
    Go w l room_1 n0 Y h0 1 128 404 #[.val (.int p0), .val (.int p1), .val (.int p2), .val (.int p3), .val (.long q4), .second, .val (.int kx), .val (.ref kd), .val (.int (2 : Int32)), .val (.int (99 : Int32)), .val (.int (Int32.ofNat N)), .val (.int (Int32.ofNat (126 - N))), .val (.int (Int32.ofNat s)), .val (.int (Int32.ofNat (s + 2))), .val (.int sl), .val (.int M), .val (.ref bt), .val (.int (Int32.ofNat m)), .unset, .unset, .unset, .unset, .unset, .unset] [] := by
  refine g_iconst C (z := (4 : Int32)) at_404 (pc' := 405) rfl rfl ?_
  refine g_anewarr C (ad := "[Ljava/lang/String;") (cap := 4) (hw _ (List.mem_of_getElem? (i := 6) rfl)) (hw _ (List.mem_of_getElem? (i := 7) rfl)) at_405 (pc' := 408) rfl rfl (by decide) (by decide) (by decide) (k' := 2) (n' := 132) rfl rfl (by decide) (by decide) ?_
  intro h99 b99 E99 fb99 gb99 A99 V99
  have ne_bt_b99 : bt ≠ b99 := Nat.ne_of_lt (Nat.lt_of_lt_of_le A.lt fb99)
  have A := A.ext E99
  have X := X.ext E99
  refine g_astore C at_408 (pc' := 410) rfl rfl (Ls' := #[.val (.int p0), .val (.int p1), .val (.int p2), .val (.int p3), .val (.long q4), .second, .val (.int kx), .val (.ref kd), .val (.int (2 : Int32)), .val (.int (99 : Int32)), .val (.int (Int32.ofNat N)), .val (.int (Int32.ofNat (126 - N))), .val (.int (Int32.ofNat s)), .val (.int (Int32.ofNat (s + 2))), .val (.int sl), .val (.int M), .val (.ref bt), .val (.int (Int32.ofNat m)), .val (.ref b99), .unset, .unset, .unset, .unset, .unset]) rfl ?_
  refine g_iloadN C at_410 (pc' := 411) rfl rfl ?_
  refine g_iconst C (z := (3 : Int32)) at_411 (pc' := 412) rfl rfl ?_
  refine g_iand C at_412 (pc' := 413) rfl ?_
  refine g_istore C at_413 (pc' := 415) rfl (Ls' := #[.val (.int p0), .val (.int p1), .val (.int p2), .val (.int p3), .val (.long q4), .second, .val (.int kx), .val (.ref kd), .val (.int (2 : Int32)), .val (.int (99 : Int32)), .val (.int (Int32.ofNat N)), .val (.int (Int32.ofNat (126 - N))), .val (.int (Int32.ofNat s)), .val (.int (Int32.ofNat (s + 2))), .val (.int sl), .val (.int M), .val (.ref bt), .val (.int (Int32.ofNat m)), .val (.ref b99), .val (.int (p3 &&& (3 : Int32))), .unset, .unset, .unset, .unset]) rfl ?_
  refine g_new C (hw _ (List.mem_of_getElem? (i := 8) rfl)) (hw _ (List.mem_of_getElem? (i := 9) rfl)) (hw _ (List.mem_of_getElem? (i := 10) rfl)) at_415 (pc' := 418) rfl (k' := 3) (n' := 134) rfl rfl (by decide) (by decide) ?_
  intro h100 b100 E100 fb100 gb100 A100 D100
  have ne_bt_b100 : bt ≠ b100 := Nat.ne_of_lt (Nat.lt_of_lt_of_le A.lt fb100)
  have ne_b99_b100 : b99 ≠ b100 := Nat.ne_of_lt (Nat.lt_of_lt_of_le A99.lt fb100)
  have A := A.ext E100
  have X := X.ext E100
  have A99 := A99.ext E100
  have F100_kind : Fld Z h100 b100 "com/example/longhaul/longhaul/Iso8583AsciiCodec$FieldFormat" "kind" "Lcom/example/longhaul/longhaul/Iso8583AsciiCodec$LengthKind;" .null := D100 (Or.inr (hw _ (List.mem_of_getElem? (i := 23) rfl))) (ty := (.object "com/example/longhaul/longhaul/Iso8583AsciiCodec$LengthKind")) (by decide)
  have F100_maxLength : Fld Z h100 b100 "com/example/longhaul/longhaul/Iso8583AsciiCodec$FieldFormat" "maxLength" "I" (.int (0 : Int32)) := D100 (Or.inr (hw _ (List.mem_of_getElem? (i := 25) rfl))) (ty := .int) (by decide)
  refine g_dup C at_418 (pc' := 419) rfl rfl ?_
  refine g_aload C at_419 (pc' := 421) rfl rfl rfl ?_
  refine g_iload C at_421 (pc' := 423) rfl rfl ?_
  refine g_special (rm := R_s_ff) (a := b100) C (y := (⟨"com/example/longhaul/longhaul/Iso8583AsciiCodec$FieldFormat", "<init>", "(Lcom/example/longhaul/longhaul/Iso8583AsciiCodec$LengthKind;I)V"⟩ : MethodName)) rfl (hw _ (List.mem_of_getElem? (i := 11) rfl)) (hw _ (List.mem_of_getElem? (i := 12) rfl)) (hw _ (List.mem_of_getElem? (i := 13) rfl)) (by decide) at_423 (pc' := 426) rfl (argsL := [(.ref kd), (.int M)]) (rest := [(.ref b100)]) (lenOf pd_17 rfl) rfl (W := 1) (Nat.le_of_eq rfl) rfl (fun hn9 => Met.back (rm := R_s_ff) (s_ff hw b100 kd M F100_kind F100_maxLength A100 gb100) hn9 C.hZ (hw _ (List.mem_of_getElem? (i := 13) rfl)) (hw _ (List.mem_of_getElem? (i := 10) rfl)) (by decide) (by decide)) (k' := 3) (n' := 134) rfl rfl (by decide) (by decide) ?_
  rintro _ h101 ⟨rfl, Kf, Ef, Fk, Fm⟩
  have A := A.keep Kf (ninS ne_bt_b100 nin0)
  have X := X.keep Kf (allS gb100 all0)
  have A99 := A99.keep Kf (ninS ne_b99_b100 nin0)
  show Go w l _ n0 _ h101 3 134 426 #[.val (.int p0), .val (.int p1), .val (.int p2), .val (.int p3), .val (.long q4), .second, .val (.int kx), .val (.ref kd), .val (.int (2 : Int32)), .val (.int (99 : Int32)), .val (.int (Int32.ofNat N)), .val (.int (Int32.ofNat (126 - N))), .val (.int (Int32.ofNat s)), .val (.int (Int32.ofNat (s + 2))), .val (.int sl), .val (.int M), .val (.ref bt), .val (.int (Int32.ofNat m)), .val (.ref b99), .val (.int (p3 &&& (3 : Int32))), .unset, .unset, .unset, .unset] [(.ref b100)]
  refine g_astore C at_426 (pc' := 428) rfl rfl (Ls' := #[.val (.int p0), .val (.int p1), .val (.int p2), .val (.int p3), .val (.long q4), .second, .val (.int kx), .val (.ref kd), .val (.int (2 : Int32)), .val (.int (99 : Int32)), .val (.int (Int32.ofNat N)), .val (.int (Int32.ofNat (126 - N))), .val (.int (Int32.ofNat s)), .val (.int (Int32.ofNat (s + 2))), .val (.int sl), .val (.int M), .val (.ref bt), .val (.int (Int32.ofNat m)), .val (.ref b99), .val (.int (p3 &&& (3 : Int32))), .val (.ref b100), .unset, .unset, .unset]) rfl ?_
  refine g_aload C at_428 (pc' := 430) rfl rfl rfl ?_
  refine g_iloadN C at_430 (pc' := 431) rfl rfl ?_
  refine g_aload C at_431 (pc' := 433) rfl rfl rfl ?_
  refine g_iload C at_433 (pc' := 435) rfl rfl ?_
  refine g_aload C at_435 (pc' := 437) rfl rfl rfl ?_
  refine g_iload C at_437 (pc' := 439) rfl rfl ?_
  refine g_virtual (rm := R_rd2) (a := b100) C (y := (⟨"com/example/longhaul/longhaul/Iso8583AsciiCodec$FieldFormat", "read", "(I[BI[Ljava/lang/String;I)I"⟩ : MethodName)) (y' := (⟨"com/example/longhaul/longhaul/Iso8583AsciiCodec$FieldFormat", "read", "(I[BI[Ljava/lang/String;I)I"⟩ : MethodName)) (hw _ (List.mem_of_getElem? (i := 26) rfl)) (hw _ (List.mem_of_getElem? (i := 27) rfl)) (g_nf C (hw _ (List.mem_of_getElem? (i := 29) rfl))) (hw _ (List.mem_of_getElem? (i := 29) rfl)) (hw _ (List.mem_of_getElem? (i := 28) rfl)) (by decide) Ef at_439 (pc' := 442) rfl (argsL := [(.int p3), (.ref bt), (.int (Int32.ofNat s)), (.ref b99), (.int (p3 &&& (3 : Int32)))]) (rest := []) (lenOf pd_18 rfl) rfl (W := 0) (Nat.le_of_eq rfl) rfl (fun hn9 => Met.back (rm := R_rd2) (rd2 hw b100 kd bt b99 cs u8 iso s N F M (p3 &&& 3) p3 G1 G3 Fk Fm (Fd.ext X.2) A A99 V99 gb99 ne_bt_b99 (own_i3 p3).1 (own_i3 p3).2 hF hPN O2 P5 Ou Oi Oa ne_cs_u8 ne_cs_iso X (Ecs.ext X.2) O4 rG3 Os (by rw [hg0, own_dgv (by rw [own_q10 (by omega)]; omega), own_q10 (by omega)]; omega) (by rw [hg1, own_dgv (by rw [own_r10 (by omega)]; omega), own_r10 (by omega)]; omega) (own_v2 (by omega) (by rw [hg0, own_dgv (by rw [own_q10 (by omega)]; omega), own_q10 (by omega)]) (by rw [hg1, own_dgv (by rw [own_r10 (by omega)]; omega), own_r10 (by omega)])) hM h1) hn9 C.hZ (hw _ (List.mem_of_getElem? (i := 30) rfl)) (hw _ (List.mem_of_getElem? (i := 10) rfl)) (by decide) (by decide)) (k' := 5) (n' := 266) rfl rfl (by decide) (by decide) ?_
  rintro _ h9 ⟨x, rfl, X, A, Vs, E, t2, Fc, Fv, B⟩
  show Go w l _ n0 _ h9 5 266 442 #[.val (.int p0), .val (.int p1), .val (.int p2), .val (.int p3), .val (.long q4), .second, .val (.int kx), .val (.ref kd), .val (.int (2 : Int32)), .val (.int (99 : Int32)), .val (.int (Int32.ofNat N)), .val (.int (Int32.ofNat (126 - N))), .val (.int (Int32.ofNat s)), .val (.int (Int32.ofNat (s + 2))), .val (.int sl), .val (.int M), .val (.ref bt), .val (.int (Int32.ofNat m)), .val (.ref b99), .val (.int (p3 &&& (3 : Int32))), .val (.ref b100), .unset, .unset, .unset] [(.int (Int32.ofNat ((s + 2) + N)))]
  refine g_istore C at_442 (pc' := 444) rfl (Ls' := #[.val (.int p0), .val (.int p1), .val (.int p2), .val (.int p3), .val (.long q4), .second, .val (.int kx), .val (.ref kd), .val (.int (2 : Int32)), .val (.int (99 : Int32)), .val (.int (Int32.ofNat N)), .val (.int (Int32.ofNat (126 - N))), .val (.int (Int32.ofNat s)), .val (.int (Int32.ofNat (s + 2))), .val (.int sl), .val (.int M), .val (.ref bt), .val (.int (Int32.ofNat m)), .val (.ref b99), .val (.int (p3 &&& (3 : Int32))), .val (.ref b100), .val (.int (Int32.ofNat ((s + 2) + N))), .unset, .unset]) rfl ?_
  refine g_aload C at_444 (pc' := 446) rfl rfl rfl ?_
  refine g_iload C at_446 (pc' := 448) rfl rfl ?_
  refine g_aaload C rfl (v := (.ref x)) Vs (own_i3 p3).1 (own_i3 p3).2 (upd_same _ _ _) at_448 (pc' := 449) rfl ?_
  refine g_astore C at_449 (pc' := 451) rfl rfl (Ls' := #[.val (.int p0), .val (.int p1), .val (.int p2), .val (.int p3), .val (.long q4), .second, .val (.int kx), .val (.ref kd), .val (.int (2 : Int32)), .val (.int (99 : Int32)), .val (.int (Int32.ofNat N)), .val (.int (Int32.ofNat (126 - N))), .val (.int (Int32.ofNat s)), .val (.int (Int32.ofNat (s + 2))), .val (.int sl), .val (.int M), .val (.ref bt), .val (.int (Int32.ofNat m)), .val (.ref b99), .val (.int (p3 &&& (3 : Int32))), .val (.ref b100), .val (.int (Int32.ofNat ((s + 2) + N))), .val (.ref x), .unset]) rfl ?_
  exact e451_2 (C := C) hw p0 p1 p2 p3 q4 kx (Int32.ofNat (126 - N)) sl M (p3 &&& 3) G1 G3 kd bt b99 b100 x t2 s N m F CW A Vs E Fc Fv B hF hPN (own_i3 p3).1 O2 P5 X O4 rG3 h1 hm
set_option maxRecDepth 65536 in
set_option maxHeartbeats 40000000 in
theorem f374_2 {l : Launch} {Z : State} {a0 : Array Value} (hw : ∀ d ∈ tables_1, d.before a0 Z = true) {w : Wk} {n0 : Nat} {h0 : Heap} {Y : State → Outcome → Prop} (p0 p1 p2 p3 : Int32) (q4 : Int64) (kx G1 sl M : Int32) (G3 : Value) (kd cs u8 iso bt : Addr) (s N m : Nat) (F : Nat → Int32) (C : Cx w Z "com/example/longhaul/longhaul/FieldFormatReadPinLaw" code 24 (some .boolean) "law" room_1 n0 (fun v _ => v = some (.int 1)) Y) (CW : LvW w room_1 n0 (fun v _ => v = some (.int 1)) Y) (Fd : Fld Z Z.heap kd "com/example/longhaul/longhaul/Iso8583AsciiCodec$LengthKind" "digits" "I" (.int 2)) (O2 : Sta Z Z.heap "java/lang/String" "COMPACT_STRINGS" "Z" (.int G1)) (P5 : ¬ G1 = 0) (Ou : Sta Z Z.heap "sun/nio/cs/UTF_8" "INSTANCE" "Lsun/nio/cs/UTF_8;" (.ref u8)) (Oi : Sta Z Z.heap "sun/nio/cs/ISO_8859_1" "INSTANCE" "Lsun/nio/cs/ISO_8859_1;" (.ref iso)) (Oa : Sta Z Z.heap "sun/nio/cs/US_ASCII" "INSTANCE" "Lsun/nio/cs/US_ASCII;" (.ref cs)) (ne_cs_u8 : cs ≠ u8) (ne_cs_iso : cs ≠ iso) (Ecs : Exa Z Z.heap cs "sun/nio/cs/US_ASCII") (O4 : Sta Z Z.heap "jdk/internal/util/Preconditions" "SIOOBE_FORMATTER" "Ljava/util/function/BiFunction;" G3) (rG3 : G3.isRef = true) (Os : Sta Z Z.heap "java/nio/charset/StandardCharsets" "US_ASCII" "Ljava/nio/charset/Charset;" (.ref cs)) (hh : Jvm.Lit.constHeld Z "java/lang/String" 7) (hcw : Jvm.Lit.compactW.before a0 Z = true) (hI : w.s.vm.interned = Z.vm.interned) (hPN : (s + 2) + N ≤ 128) (h1 : 1 ≤ N) (hm : m < N) (hN : N ≤ 99) (hM : ¬ M < Int32.ofNat N) (X : Old Z n0 h0) (A : Arf Z h0 bt "[B" .byte (128 : Int32) (fun j => .int (F j))) (gb : n0 ≤ bt) (hF : own_ok F) (hg0 : F s = own_dg (Int32.ofNat N / 10)) (hg1 : F (s + 1) = own_dg (Int32.ofNat N % 10)) :
    Go w l room_1 n0 Y h0 1 128 374 #[.val (.int p0), .val (.int p1), .val (.int p2), .val (.int p3), .val (.long q4), .second, .val (.int kx), .val (.ref kd), .val (.int (2 : Int32)), .val (.int (99 : Int32)), .val (.int (Int32.ofNat N)), .val (.int (Int32.ofNat (126 - N))), .val (.int (Int32.ofNat s)), .val (.int (Int32.ofNat (s + 2))), .val (.int sl), .val (.int M), .val (.ref bt), .val (.int (Int32.ofNat m)), .unset, .unset, .unset, .unset, .unset, .unset] [] := by
  refine g_iload C at_374 (pc' := 376) rfl rfl ?_
  refine g_iload C at_376 (pc' := 378) rfl rfl ?_
  refine g_iadd C at_378 (pc' := 379) rfl ?_
  rw [← Int32.ofNat_add]
  show Go w l _ n0 _ h0 1 128 379 #[.val (.int p0), .val (.int p1), .val (.int p2), .val (.int p3), .val (.long q4), .second, .val (.int kx), .val (.ref kd), .val (.int (2 : Int32)), .val (.int (99 : Int32)), .val (.int (Int32.ofNat N)), .val (.int (Int32.ofNat (126 - N))), .val (.int (Int32.ofNat s)), .val (.int (Int32.ofNat (s + 2))), .val (.int sl), .val (.int M), .val (.ref bt), .val (.int (Int32.ofNat m)), .unset, .unset, .unset, .unset, .unset, .unset] [(.int (Int32.ofNat ((s + 2) + N)))]
  refine g_sipush C (z := (128 : Int32)) at_379 (pc' := 382) rfl rfl ?_
  refine g_icmp_ge C at_382 (by decide) (pc' := 404) (by decide) (pcN := 385) rfl (fun q382 => ?_) (fun q382 => ?_)
  · exact f404_2 (C := C) hw p0 p1 p2 p3 q4 kx G1 sl M G3 kd cs u8 iso bt s N m F CW Fd O2 P5 Ou Oi Oa ne_cs_u8 ne_cs_iso Ecs O4 rG3 Os hh hcw hI hPN h1 hm hN hM X A gb hF hg0 hg1
  · have z382 : (s + 2) + N < 128 := own_ge128 q382 (by omega)
    refine g_aload C at_385 (pc' := 387) rfl rfl rfl ?_
    refine g_iload C at_387 (pc' := 389) rfl rfl ?_
    refine g_iload C at_389 (pc' := 391) rfl rfl ?_
    refine g_iadd C at_391 (pc' := 392) rfl ?_
    rw [← Int32.ofNat_add]
    show Go w l _ n0 _ h0 1 128 392 #[.val (.int p0), .val (.int p1), .val (.int p2), .val (.int p3), .val (.long q4), .second, .val (.int kx), .val (.ref kd), .val (.int (2 : Int32)), .val (.int (99 : Int32)), .val (.int (Int32.ofNat N)), .val (.int (Int32.ofNat (126 - N))), .val (.int (Int32.ofNat s)), .val (.int (Int32.ofNat (s + 2))), .val (.int sl), .val (.int M), .val (.ref bt), .val (.int (Int32.ofNat m)), .unset, .unset, .unset, .unset, .unset, .unset] [(.int (Int32.ofNat ((s + 2) + N))), (.ref bt)]
    refine g_lload C at_392 (pc' := 394) rfl rfl ?_
    refine g_bipush C (z := (32 : Int32)) at_394 (pc' := 396) rfl rfl ?_
    refine g_lushr C at_396 (pc' := 397) rfl ?_
    refine g_ldc2J C (hw _ (List.mem_of_getElem? (i := 5) rfl)) at_397 (pc' := 400) rfl ?_
    refine g_land C at_400 (pc' := 401) rfl ?_
    refine g_l2i C at_401 (pc' := 402) rfl ?_
    refine g_i2b C at_402 (pc' := 403) rfl ?_
    refine g_bastore C A (n32_nn (by omega)) (n32_lt (n := 128) (by omega) (by omega)) at_403 (pc' := 404) rfl gb (fun h102 W103 A' => ?_)
    have X := X.wr W103 gb
    have A : Arf Z h102 bt "[B" .byte (128 : Int32) (upd (fun j => .int (F j)) (Int32.ofNat ((s + 2) + N)).toNatClampNeg (.int (nar .byte (((((q4.toUInt64 >>> ((32 : Int32) &&& 0x3f).toInt64.toUInt64).toInt64) &&& (127 : Int64)).toInt32).toInt8.toInt32)))) := A'
    have A : Arf Z h102 bt "[B" .byte (128 : Int32) (fun j => .int ((own_w F ((s + 2) + N) (nar .byte (((((q4.toUInt64 >>> ((32 : Int32) &&& 0x3f).toInt64.toUInt64).toInt64) &&& (127 : Int64)).toInt32).toInt8.toInt32))) j)) := A.congr fun j _ => own_wr (by omega) (nar .byte (((((q4.toUInt64 >>> ((32 : Int32) &&& 0x3f).toInt64.toUInt64).toInt64) &&& (127 : Int64)).toInt32).toInt8.toInt32)) j
    exact f404_2 (C := C) hw p0 p1 p2 p3 q4 kx G1 sl M G3 kd cs u8 iso bt s N m (own_w F ((s + 2) + N) (nar .byte (((((q4.toUInt64 >>> ((32 : Int32) &&& 0x3f).toInt64.toUInt64).toInt64) &&& (127 : Int64)).toInt32).toInt8.toInt32))) CW Fd O2 P5 Ou Oi Oa ne_cs_u8 ne_cs_iso Ecs O4 rG3 Os hh hcw hI hPN h1 hm hN hM X A gb (own_okw hF (own_v7 _)) ((own_wne (by omega)).trans hg0) ((own_wne (by omega)).trans hg1)
set_option maxRecDepth 65536 in
set_option maxHeartbeats 40000000 in
theorem f404_3z {l : Launch} {Z : State} {a0 : Array Value} (hw : ∀ d ∈ tables_1, d.before a0 Z = true) {w : Wk} {n0 : Nat} {h0 : Heap} {Y : State → Outcome → Prop} (p0 p1 p2 p3 : Int32) (q4 : Int64) (kx G1 sl M : Int32) (G3 : Value) (kd cs u8 iso bt : Addr) (s m : Nat) (F : Nat → Int32) (C : Cx w Z "com/example/longhaul/longhaul/FieldFormatReadPinLaw" code 24 (some .boolean) "law" room_1 n0 (fun v _ => v = some (.int 1)) Y) (CW : LvW w room_1 n0 (fun v _ => v = some (.int 1)) Y) (Fd : Fld Z Z.heap kd "com/example/longhaul/longhaul/Iso8583AsciiCodec$LengthKind" "digits" "I" (.int 3)) (O2 : Sta Z Z.heap "java/lang/String" "COMPACT_STRINGS" "Z" (.int G1)) (P5 : ¬ G1 = 0) (Ou : Sta Z Z.heap "sun/nio/cs/UTF_8" "INSTANCE" "Lsun/nio/cs/UTF_8;" (.ref u8)) (Oi : Sta Z Z.heap "sun/nio/cs/ISO_8859_1" "INSTANCE" "Lsun/nio/cs/ISO_8859_1;" (.ref iso)) (Oa : Sta Z Z.heap "sun/nio/cs/US_ASCII" "INSTANCE" "Lsun/nio/cs/US_ASCII;" (.ref cs)) (ne_cs_u8 : cs ≠ u8) (ne_cs_iso : cs ≠ iso) (Ecs : Exa Z Z.heap cs "sun/nio/cs/US_ASCII") (O4 : Sta Z Z.heap "jdk/internal/util/Preconditions" "SIOOBE_FORMATTER" "Ljava/util/function/BiFunction;" G3) (rG3 : G3.isRef = true) (Os : Sta Z Z.heap "java/nio/charset/StandardCharsets" "US_ASCII" "Ljava/nio/charset/Charset;" (.ref cs)) (hh : Jvm.Lit.constHeld Z "java/lang/String" 7) (hcw : Jvm.Lit.compactW.before a0 Z = true) (hI : w.s.vm.interned = Z.vm.interned) (hPN : (s + 3) + 0 ≤ 128) (hM : ¬ M < Int32.ofNat 0) (X : Old Z n0 h0) (A : Arf Z h0 bt "[B" .byte (128 : Int32) (fun j => .int (F j))) (gb : n0 ≤ bt) (hF : own_ok F) (hg0 : F s = own_dg (Int32.ofNat 0 / 100)) (hg1 : F (s + 1) = own_dg ((Int32.ofNat 0 / 10) % 10)) (hg2 : F (s + 1 + 1) = own_dg (Int32.ofNat 0 % 10)) :
    Go w l room_1 n0 Y h0 1 128 404 #[.val (.int p0), .val (.int p1), .val (.int p2), .val (.int p3), .val (.long q4), .second, .val (.int kx), .val (.ref kd), .val (.int (3 : Int32)), .val (.int (125 : Int32)), .val (.int (Int32.ofNat 0)), .val (.int (Int32.ofNat (125 - 0))), .val (.int (Int32.ofNat s)), .val (.int (Int32.ofNat (s + 3))), .val (.int sl), .val (.int M), .val (.ref bt), .val (.int (Int32.ofNat m)), .unset, .unset, .unset, .unset, .unset, .unset] [] := by
  refine g_iconst C (z := (4 : Int32)) at_404 (pc' := 405) rfl rfl ?_
  refine g_anewarr C (ad := "[Ljava/lang/String;") (cap := 4) (hw _ (List.mem_of_getElem? (i := 6) rfl)) (hw _ (List.mem_of_getElem? (i := 7) rfl)) at_405 (pc' := 408) rfl rfl (by decide) (by decide) (by decide) (k' := 2) (n' := 132) rfl rfl (by decide) (by decide) ?_
  intro h104 b104 E104 fb104 gb104 A104 V104
  have ne_bt_b104 : bt ≠ b104 := Nat.ne_of_lt (Nat.lt_of_lt_of_le A.lt fb104)
  have A := A.ext E104
  have X := X.ext E104
  refine g_astore C at_408 (pc' := 410) rfl rfl (Ls' := #[.val (.int p0), .val (.int p1), .val (.int p2), .val (.int p3), .val (.long q4), .second, .val (.int kx), .val (.ref kd), .val (.int (3 : Int32)), .val (.int (125 : Int32)), .val (.int (Int32.ofNat 0)), .val (.int (Int32.ofNat (125 - 0))), .val (.int (Int32.ofNat s)), .val (.int (Int32.ofNat (s + 3))), .val (.int sl), .val (.int M), .val (.ref bt), .val (.int (Int32.ofNat m)), .val (.ref b104), .unset, .unset, .unset, .unset, .unset]) rfl ?_
  refine g_iloadN C at_410 (pc' := 411) rfl rfl ?_
  refine g_iconst C (z := (3 : Int32)) at_411 (pc' := 412) rfl rfl ?_
  refine g_iand C at_412 (pc' := 413) rfl ?_
  refine g_istore C at_413 (pc' := 415) rfl (Ls' := #[.val (.int p0), .val (.int p1), .val (.int p2), .val (.int p3), .val (.long q4), .second, .val (.int kx), .val (.ref kd), .val (.int (3 : Int32)), .val (.int (125 : Int32)), .val (.int (Int32.ofNat 0)), .val (.int (Int32.ofNat (125 - 0))), .val (.int (Int32.ofNat s)), .val (.int (Int32.ofNat (s + 3))), .val (.int sl), .val (.int M), .val (.ref bt), .val (.int (Int32.ofNat m)), .val (.ref b104), .val (.int (p3 &&& (3 : Int32))), .unset, .unset, .unset, .unset]) rfl ?_
  refine g_new C (hw _ (List.mem_of_getElem? (i := 8) rfl)) (hw _ (List.mem_of_getElem? (i := 9) rfl)) (hw _ (List.mem_of_getElem? (i := 10) rfl)) at_415 (pc' := 418) rfl (k' := 3) (n' := 134) rfl rfl (by decide) (by decide) ?_
  intro h105 b105 E105 fb105 gb105 A105 D105
  have ne_bt_b105 : bt ≠ b105 := Nat.ne_of_lt (Nat.lt_of_lt_of_le A.lt fb105)
  have ne_b104_b105 : b104 ≠ b105 := Nat.ne_of_lt (Nat.lt_of_lt_of_le A104.lt fb105)
  have A := A.ext E105
  have X := X.ext E105
  have A104 := A104.ext E105
  have F105_kind : Fld Z h105 b105 "com/example/longhaul/longhaul/Iso8583AsciiCodec$FieldFormat" "kind" "Lcom/example/longhaul/longhaul/Iso8583AsciiCodec$LengthKind;" .null := D105 (Or.inr (hw _ (List.mem_of_getElem? (i := 23) rfl))) (ty := (.object "com/example/longhaul/longhaul/Iso8583AsciiCodec$LengthKind")) (by decide)
  have F105_maxLength : Fld Z h105 b105 "com/example/longhaul/longhaul/Iso8583AsciiCodec$FieldFormat" "maxLength" "I" (.int (0 : Int32)) := D105 (Or.inr (hw _ (List.mem_of_getElem? (i := 25) rfl))) (ty := .int) (by decide)
  refine g_dup C at_418 (pc' := 419) rfl rfl ?_
  refine g_aload C at_419 (pc' := 421) rfl rfl rfl ?_
  refine g_iload C at_421 (pc' := 423) rfl rfl ?_
  refine g_special (rm := R_s_ff) (a := b105) C (y := (⟨"com/example/longhaul/longhaul/Iso8583AsciiCodec$FieldFormat", "<init>", "(Lcom/example/longhaul/longhaul/Iso8583AsciiCodec$LengthKind;I)V"⟩ : MethodName)) rfl (hw _ (List.mem_of_getElem? (i := 11) rfl)) (hw _ (List.mem_of_getElem? (i := 12) rfl)) (hw _ (List.mem_of_getElem? (i := 13) rfl)) (by decide) at_423 (pc' := 426) rfl (argsL := [(.ref kd), (.int M)]) (rest := [(.ref b105)]) (lenOf pd_17 rfl) rfl (W := 1) (Nat.le_of_eq rfl) rfl (fun hn9 => Met.back (rm := R_s_ff) (s_ff hw b105 kd M F105_kind F105_maxLength A105 gb105) hn9 C.hZ (hw _ (List.mem_of_getElem? (i := 13) rfl)) (hw _ (List.mem_of_getElem? (i := 10) rfl)) (by decide) (by decide)) (k' := 3) (n' := 134) rfl rfl (by decide) (by decide) ?_
  rintro _ h106 ⟨rfl, Kf, Ef, Fk, Fm⟩
  have A := A.keep Kf (ninS ne_bt_b105 nin0)
  have X := X.keep Kf (allS gb105 all0)
  have A104 := A104.keep Kf (ninS ne_b104_b105 nin0)
  show Go w l _ n0 _ h106 3 134 426 #[.val (.int p0), .val (.int p1), .val (.int p2), .val (.int p3), .val (.long q4), .second, .val (.int kx), .val (.ref kd), .val (.int (3 : Int32)), .val (.int (125 : Int32)), .val (.int (Int32.ofNat 0)), .val (.int (Int32.ofNat (125 - 0))), .val (.int (Int32.ofNat s)), .val (.int (Int32.ofNat (s + 3))), .val (.int sl), .val (.int M), .val (.ref bt), .val (.int (Int32.ofNat m)), .val (.ref b104), .val (.int (p3 &&& (3 : Int32))), .unset, .unset, .unset, .unset] [(.ref b105)]
  refine g_astore C at_426 (pc' := 428) rfl rfl (Ls' := #[.val (.int p0), .val (.int p1), .val (.int p2), .val (.int p3), .val (.long q4), .second, .val (.int kx), .val (.ref kd), .val (.int (3 : Int32)), .val (.int (125 : Int32)), .val (.int (Int32.ofNat 0)), .val (.int (Int32.ofNat (125 - 0))), .val (.int (Int32.ofNat s)), .val (.int (Int32.ofNat (s + 3))), .val (.int sl), .val (.int M), .val (.ref bt), .val (.int (Int32.ofNat m)), .val (.ref b104), .val (.int (p3 &&& (3 : Int32))), .val (.ref b105), .unset, .unset, .unset]) rfl ?_
  refine g_aload C at_428 (pc' := 430) rfl rfl rfl ?_
  refine g_iloadN C at_430 (pc' := 431) rfl rfl ?_
  refine g_aload C at_431 (pc' := 433) rfl rfl rfl ?_
  refine g_iload C at_433 (pc' := 435) rfl rfl ?_
  refine g_aload C at_435 (pc' := 437) rfl rfl rfl ?_
  refine g_iload C at_437 (pc' := 439) rfl rfl ?_
  refine g_virtualS (rm := R_rd3z) (a := b105) C CW (y := (⟨"com/example/longhaul/longhaul/Iso8583AsciiCodec$FieldFormat", "read", "(I[BI[Ljava/lang/String;I)I"⟩ : MethodName)) (y' := (⟨"com/example/longhaul/longhaul/Iso8583AsciiCodec$FieldFormat", "read", "(I[BI[Ljava/lang/String;I)I"⟩ : MethodName)) (hw _ (List.mem_of_getElem? (i := 26) rfl)) (hw _ (List.mem_of_getElem? (i := 27) rfl)) (g_nf C (hw _ (List.mem_of_getElem? (i := 29) rfl))) (hw _ (List.mem_of_getElem? (i := 29) rfl)) (hw _ (List.mem_of_getElem? (i := 28) rfl)) (by decide) Ef at_439 (pc' := 442) rfl (argsL := [(.int p3), (.ref bt), (.int (Int32.ofNat s)), (.ref b104), (.int (p3 &&& (3 : Int32)))]) (rest := []) (lenOf pd_18 rfl) rfl (W := 0) (Nat.le_of_eq rfl) rfl (fun hn9 => MetWI.back (rm := R_rd3z) (rd3z hw b105 kd bt b104 cs u8 iso s 0 F M (p3 &&& 3) p3 G1 G3 Fk Fm (Fd.ext X.2) A A104 V104 gb104 ne_bt_b104 (own_i3 p3).1 (own_i3 p3).2 hF hPN O2 P5 Ou Oi Oa ne_cs_u8 ne_cs_iso X (Ecs.ext X.2) O4 rG3 Os (by rw [hg0, own_dgv (by rw [own_q100 (by omega)]; omega), own_q100 (by omega)]; omega) (by rw [hg1, own_dgv (by rw [own_qr (by omega)]; omega), own_qr (by omega)]; omega) (by rw [hg2, own_dgv (by rw [own_r10 (by omega)]; omega), own_r10 (by omega)]; omega) (own_v3 (by omega) (by rw [hg0, own_dgv (by rw [own_q100 (by omega)]; omega), own_q100 (by omega)]) (by rw [hg1, own_dgv (by rw [own_qr (by omega)]; omega), own_qr (by omega)]) (by rw [hg2, own_dgv (by rw [own_r10 (by omega)]; omega), own_r10 (by omega)])) hM hh hcw) hn9 C.hZ hI (hw _ (List.mem_of_getElem? (i := 30) rfl)) (hw _ (List.mem_of_getElem? (i := 10) rfl)) (by decide) (by decide)) (k' := 6) (n' := 142) rfl rfl (by decide) (by decide) ?_
  rintro w _ h9 C CW ⟨x, rfl, X, A, Vs, E, t2, Fc, Fv, B⟩
  show Go w l _ n0 _ h9 6 142 442 #[.val (.int p0), .val (.int p1), .val (.int p2), .val (.int p3), .val (.long q4), .second, .val (.int kx), .val (.ref kd), .val (.int (3 : Int32)), .val (.int (125 : Int32)), .val (.int (Int32.ofNat 0)), .val (.int (Int32.ofNat (125 - 0))), .val (.int (Int32.ofNat s)), .val (.int (Int32.ofNat (s + 3))), .val (.int sl), .val (.int M), .val (.ref bt), .val (.int (Int32.ofNat m)), .val (.ref b104), .val (.int (p3 &&& (3 : Int32))), .val (.ref b105), .unset, .unset, .unset] [(.int (Int32.ofNat ((s + 3) + 0)))]
  refine g_istore C at_442 (pc' := 444) rfl (Ls' := #[.val (.int p0), .val (.int p1), .val (.int p2), .val (.int p3), .val (.long q4), .second, .val (.int kx), .val (.ref kd), .val (.int (3 : Int32)), .val (.int (125 : Int32)), .val (.int (Int32.ofNat 0)), .val (.int (Int32.ofNat (125 - 0))), .val (.int (Int32.ofNat s)), .val (.int (Int32.ofNat (s + 3))), .val (.int sl), .val (.int M), .val (.ref bt), .val (.int (Int32.ofNat m)), .val (.ref b104), .val (.int (p3 &&& (3 : Int32))), .val (.ref b105), .val (.int (Int32.ofNat ((s + 3) + 0))), .unset, .unset]) rfl ?_
  refine g_aload C at_444 (pc' := 446) rfl rfl rfl ?_
  refine g_iload C at_446 (pc' := 448) rfl rfl ?_
  refine g_aaload C rfl (v := (.ref x)) Vs (own_i3 p3).1 (own_i3 p3).2 (upd_same _ _ _) at_448 (pc' := 449) rfl ?_
  refine g_astore C at_449 (pc' := 451) rfl rfl (Ls' := #[.val (.int p0), .val (.int p1), .val (.int p2), .val (.int p3), .val (.long q4), .second, .val (.int kx), .val (.ref kd), .val (.int (3 : Int32)), .val (.int (125 : Int32)), .val (.int (Int32.ofNat 0)), .val (.int (Int32.ofNat (125 - 0))), .val (.int (Int32.ofNat s)), .val (.int (Int32.ofNat (s + 3))), .val (.int sl), .val (.int M), .val (.ref bt), .val (.int (Int32.ofNat m)), .val (.ref b104), .val (.int (p3 &&& (3 : Int32))), .val (.ref b105), .val (.int (Int32.ofNat ((s + 3) + 0))), .val (.ref x), .unset]) rfl ?_
  exact e451_3z (C := C) hw p0 p1 p2 p3 q4 kx (Int32.ofNat (125 - 0)) sl M (p3 &&& 3) G1 G3 kd bt b104 b105 x t2 s 0 m F CW A Vs E Fc Fv B hF hPN (own_i3 p3).1 O2 P5 X O4 rG3
set_option maxRecDepth 65536 in
set_option maxHeartbeats 40000000 in
theorem f374_3z {l : Launch} {Z : State} {a0 : Array Value} (hw : ∀ d ∈ tables_1, d.before a0 Z = true) {w : Wk} {n0 : Nat} {h0 : Heap} {Y : State → Outcome → Prop} (p0 p1 p2 p3 : Int32) (q4 : Int64) (kx G1 sl M : Int32) (G3 : Value) (kd cs u8 iso bt : Addr) (s m : Nat) (F : Nat → Int32) (C : Cx w Z "com/example/longhaul/longhaul/FieldFormatReadPinLaw" code 24 (some .boolean) "law" room_1 n0 (fun v _ => v = some (.int 1)) Y) (CW : LvW w room_1 n0 (fun v _ => v = some (.int 1)) Y) (Fd : Fld Z Z.heap kd "com/example/longhaul/longhaul/Iso8583AsciiCodec$LengthKind" "digits" "I" (.int 3)) (O2 : Sta Z Z.heap "java/lang/String" "COMPACT_STRINGS" "Z" (.int G1)) (P5 : ¬ G1 = 0) (Ou : Sta Z Z.heap "sun/nio/cs/UTF_8" "INSTANCE" "Lsun/nio/cs/UTF_8;" (.ref u8)) (Oi : Sta Z Z.heap "sun/nio/cs/ISO_8859_1" "INSTANCE" "Lsun/nio/cs/ISO_8859_1;" (.ref iso)) (Oa : Sta Z Z.heap "sun/nio/cs/US_ASCII" "INSTANCE" "Lsun/nio/cs/US_ASCII;" (.ref cs)) (ne_cs_u8 : cs ≠ u8) (ne_cs_iso : cs ≠ iso) (Ecs : Exa Z Z.heap cs "sun/nio/cs/US_ASCII") (O4 : Sta Z Z.heap "jdk/internal/util/Preconditions" "SIOOBE_FORMATTER" "Ljava/util/function/BiFunction;" G3) (rG3 : G3.isRef = true) (Os : Sta Z Z.heap "java/nio/charset/StandardCharsets" "US_ASCII" "Ljava/nio/charset/Charset;" (.ref cs)) (hh : Jvm.Lit.constHeld Z "java/lang/String" 7) (hcw : Jvm.Lit.compactW.before a0 Z = true) (hI : w.s.vm.interned = Z.vm.interned) (hPN : (s + 3) + 0 ≤ 128) (hM : ¬ M < Int32.ofNat 0) (X : Old Z n0 h0) (A : Arf Z h0 bt "[B" .byte (128 : Int32) (fun j => .int (F j))) (gb : n0 ≤ bt) (hF : own_ok F) (hg0 : F s = own_dg (Int32.ofNat 0 / 100)) (hg1 : F (s + 1) = own_dg ((Int32.ofNat 0 / 10) % 10)) (hg2 : F (s + 1 + 1) = own_dg (Int32.ofNat 0 % 10)) :
    Go w l room_1 n0 Y h0 1 128 374 #[.val (.int p0), .val (.int p1), .val (.int p2), .val (.int p3), .val (.long q4), .second, .val (.int kx), .val (.ref kd), .val (.int (3 : Int32)), .val (.int (125 : Int32)), .val (.int (Int32.ofNat 0)), .val (.int (Int32.ofNat (125 - 0))), .val (.int (Int32.ofNat s)), .val (.int (Int32.ofNat (s + 3))), .val (.int sl), .val (.int M), .val (.ref bt), .val (.int (Int32.ofNat m)), .unset, .unset, .unset, .unset, .unset, .unset] [] := by
  refine g_iload C at_374 (pc' := 376) rfl rfl ?_
  refine g_iload C at_376 (pc' := 378) rfl rfl ?_
  refine g_iadd C at_378 (pc' := 379) rfl ?_
  rw [← Int32.ofNat_add]
  show Go w l _ n0 _ h0 1 128 379 #[.val (.int p0), .val (.int p1), .val (.int p2), .val (.int p3), .val (.long q4), .second, .val (.int kx), .val (.ref kd), .val (.int (3 : Int32)), .val (.int (125 : Int32)), .val (.int (Int32.ofNat 0)), .val (.int (Int32.ofNat (125 - 0))), .val (.int (Int32.ofNat s)), .val (.int (Int32.ofNat (s + 3))), .val (.int sl), .val (.int M), .val (.ref bt), .val (.int (Int32.ofNat m)), .unset, .unset, .unset, .unset, .unset, .unset] [(.int (Int32.ofNat ((s + 3) + 0)))]
  refine g_sipush C (z := (128 : Int32)) at_379 (pc' := 382) rfl rfl ?_
  refine g_icmp_ge C at_382 (by decide) (pc' := 404) (by decide) (pcN := 385) rfl (fun q382 => ?_) (fun q382 => ?_)
  · exact f404_3z (C := C) hw p0 p1 p2 p3 q4 kx G1 sl M G3 kd cs u8 iso bt s m F CW Fd O2 P5 Ou Oi Oa ne_cs_u8 ne_cs_iso Ecs O4 rG3 Os hh hcw hI hPN hM X A gb hF hg0 hg1 hg2
  · have z382 : (s + 3) + 0 < 128 := own_ge128 q382 (by omega)
    refine g_aload C at_385 (pc' := 387) rfl rfl rfl ?_
    refine g_iload C at_387 (pc' := 389) rfl rfl ?_
    refine g_iload C at_389 (pc' := 391) rfl rfl ?_
    refine g_iadd C at_391 (pc' := 392) rfl ?_
    rw [← Int32.ofNat_add]
    show Go w l _ n0 _ h0 1 128 392 #[.val (.int p0), .val (.int p1), .val (.int p2), .val (.int p3), .val (.long q4), .second, .val (.int kx), .val (.ref kd), .val (.int (3 : Int32)), .val (.int (125 : Int32)), .val (.int (Int32.ofNat 0)), .val (.int (Int32.ofNat (125 - 0))), .val (.int (Int32.ofNat s)), .val (.int (Int32.ofNat (s + 3))), .val (.int sl), .val (.int M), .val (.ref bt), .val (.int (Int32.ofNat m)), .unset, .unset, .unset, .unset, .unset, .unset] [(.int (Int32.ofNat ((s + 3) + 0))), (.ref bt)]
    refine g_lload C at_392 (pc' := 394) rfl rfl ?_
    refine g_bipush C (z := (32 : Int32)) at_394 (pc' := 396) rfl rfl ?_
    refine g_lushr C at_396 (pc' := 397) rfl ?_
    refine g_ldc2J C (hw _ (List.mem_of_getElem? (i := 5) rfl)) at_397 (pc' := 400) rfl ?_
    refine g_land C at_400 (pc' := 401) rfl ?_
    refine g_l2i C at_401 (pc' := 402) rfl ?_
    refine g_i2b C at_402 (pc' := 403) rfl ?_
    refine g_bastore C A (n32_nn (by omega)) (n32_lt (n := 128) (by omega) (by omega)) at_403 (pc' := 404) rfl gb (fun h107 W108 A' => ?_)
    have X := X.wr W108 gb
    have A : Arf Z h107 bt "[B" .byte (128 : Int32) (upd (fun j => .int (F j)) (Int32.ofNat ((s + 3) + 0)).toNatClampNeg (.int (nar .byte (((((q4.toUInt64 >>> ((32 : Int32) &&& 0x3f).toInt64.toUInt64).toInt64) &&& (127 : Int64)).toInt32).toInt8.toInt32)))) := A'
    have A : Arf Z h107 bt "[B" .byte (128 : Int32) (fun j => .int ((own_w F ((s + 3) + 0) (nar .byte (((((q4.toUInt64 >>> ((32 : Int32) &&& 0x3f).toInt64.toUInt64).toInt64) &&& (127 : Int64)).toInt32).toInt8.toInt32))) j)) := A.congr fun j _ => own_wr (by omega) (nar .byte (((((q4.toUInt64 >>> ((32 : Int32) &&& 0x3f).toInt64.toUInt64).toInt64) &&& (127 : Int64)).toInt32).toInt8.toInt32)) j
    exact f404_3z (C := C) hw p0 p1 p2 p3 q4 kx G1 sl M G3 kd cs u8 iso bt s m (own_w F ((s + 3) + 0) (nar .byte (((((q4.toUInt64 >>> ((32 : Int32) &&& 0x3f).toInt64.toUInt64).toInt64) &&& (127 : Int64)).toInt32).toInt8.toInt32))) CW Fd O2 P5 Ou Oi Oa ne_cs_u8 ne_cs_iso Ecs O4 rG3 Os hh hcw hI hPN hM X A gb (own_okw hF (own_v7 _)) ((own_wne (by omega)).trans hg0) ((own_wne (by omega)).trans hg1) ((own_wne (by omega)).trans hg2)
set_option maxRecDepth 65536 in
set_option maxHeartbeats 40000000 in
theorem f404_3 {l : Launch} {Z : State} {a0 : Array Value} (hw : ∀ d ∈ tables_1, d.before a0 Z = true) {w : Wk} {n0 : Nat} {h0 : Heap} {Y : State → Outcome → Prop} (p0 p1 p2 p3 : Int32) (q4 : Int64) (kx G1 sl M : Int32) (G3 : Value) (kd cs u8 iso bt : Addr) (s N m : Nat) (F : Nat → Int32) (C : Cx w Z "com/example/longhaul/longhaul/FieldFormatReadPinLaw" code 24 (some .boolean) "law" room_1 n0 (fun v _ => v = some (.int 1)) Y) (CW : LvW w room_1 n0 (fun v _ => v = some (.int 1)) Y) (Fd : Fld Z Z.heap kd "com/example/longhaul/longhaul/Iso8583AsciiCodec$LengthKind" "digits" "I" (.int 3)) (O2 : Sta Z Z.heap "java/lang/String" "COMPACT_STRINGS" "Z" (.int G1)) (P5 : ¬ G1 = 0) (Ou : Sta Z Z.heap "sun/nio/cs/UTF_8" "INSTANCE" "Lsun/nio/cs/UTF_8;" (.ref u8)) (Oi : Sta Z Z.heap "sun/nio/cs/ISO_8859_1" "INSTANCE" "Lsun/nio/cs/ISO_8859_1;" (.ref iso)) (Oa : Sta Z Z.heap "sun/nio/cs/US_ASCII" "INSTANCE" "Lsun/nio/cs/US_ASCII;" (.ref cs)) (ne_cs_u8 : cs ≠ u8) (ne_cs_iso : cs ≠ iso) (Ecs : Exa Z Z.heap cs "sun/nio/cs/US_ASCII") (O4 : Sta Z Z.heap "jdk/internal/util/Preconditions" "SIOOBE_FORMATTER" "Ljava/util/function/BiFunction;" G3) (rG3 : G3.isRef = true) (Os : Sta Z Z.heap "java/nio/charset/StandardCharsets" "US_ASCII" "Ljava/nio/charset/Charset;" (.ref cs)) (hh : Jvm.Lit.constHeld Z "java/lang/String" 7) (hcw : Jvm.Lit.compactW.before a0 Z = true) (hI : w.s.vm.interned = Z.vm.interned) (hPN : (s + 3) + N ≤ 128) (h1 : 1 ≤ N) (hm : m < N) (hN : N ≤ 125) (hM : ¬ M < Int32.ofNat N) (X : Old Z n0 h0) (A : Arf Z h0 bt "[B" .byte (128 : Int32) (fun j => .int (F j))) (gb : n0 ≤ bt) (hF : own_ok F) (hg0 : F s = own_dg (Int32.ofNat N / 100)) (hg1 : F (s + 1) = own_dg ((Int32.ofNat N / 10) % 10)) (hg2 : F (s + 1 + 1) = own_dg (Int32.ofNat N % 10)) :
    Go w l room_1 n0 Y h0 1 128 404 #[.val (.int p0), .val (.int p1), .val (.int p2), .val (.int p3), .val (.long q4), .second, .val (.int kx), .val (.ref kd), .val (.int (3 : Int32)), .val (.int (125 : Int32)), .val (.int (Int32.ofNat N)), .val (.int (Int32.ofNat (125 - N))), .val (.int (Int32.ofNat s)), .val (.int (Int32.ofNat (s + 3))), .val (.int sl), .val (.int M), .val (.ref bt), .val (.int (Int32.ofNat m)), .unset, .unset, .unset, .unset, .unset, .unset] [] := by
  refine g_iconst C (z := (4 : Int32)) at_404 (pc' := 405) rfl rfl ?_
  refine g_anewarr C (ad := "[Ljava/lang/String;") (cap := 4) (hw _ (List.mem_of_getElem? (i := 6) rfl)) (hw _ (List.mem_of_getElem? (i := 7) rfl)) at_405 (pc' := 408) rfl rfl (by decide) (by decide) (by decide) (k' := 2) (n' := 132) rfl rfl (by decide) (by decide) ?_
  intro h109 b109 E109 fb109 gb109 A109 V109
  have ne_bt_b109 : bt ≠ b109 := Nat.ne_of_lt (Nat.lt_of_lt_of_le A.lt fb109)
  have A := A.ext E109
  have X := X.ext E109
  refine g_astore C at_408 (pc' := 410) rfl rfl (Ls' := #[.val (.int p0), .val (.int p1), .val (.int p2), .val (.int p3), .val (.long q4), .second, .val (.int kx), .val (.ref kd), .val (.int (3 : Int32)), .val (.int (125 : Int32)), .val (.int (Int32.ofNat N)), .val (.int (Int32.ofNat (125 - N))), .val (.int (Int32.ofNat s)), .val (.int (Int32.ofNat (s + 3))), .val (.int sl), .val (.int M), .val (.ref bt), .val (.int (Int32.ofNat m)), .val (.ref b109), .unset, .unset, .unset, .unset, .unset]) rfl ?_
  refine g_iloadN C at_410 (pc' := 411) rfl rfl ?_
  refine g_iconst C (z := (3 : Int32)) at_411 (pc' := 412) rfl rfl ?_
  refine g_iand C at_412 (pc' := 413) rfl ?_
  refine g_istore C at_413 (pc' := 415) rfl (Ls' := #[.val (.int p0), .val (.int p1), .val (.int p2), .val (.int p3), .val (.long q4), .second, .val (.int kx), .val (.ref kd), .val (.int (3 : Int32)), .val (.int (125 : Int32)), .val (.int (Int32.ofNat N)), .val (.int (Int32.ofNat (125 - N))), .val (.int (Int32.ofNat s)), .val (.int (Int32.ofNat (s + 3))), .val (.int sl), .val (.int M), .val (.ref bt), .val (.int (Int32.ofNat m)), .val (.ref b109), .val (.int (p3 &&& (3 : Int32))), .unset, .unset, .unset, .unset]) rfl ?_
  refine g_new C (hw _ (List.mem_of_getElem? (i := 8) rfl)) (hw _ (List.mem_of_getElem? (i := 9) rfl)) (hw _ (List.mem_of_getElem? (i := 10) rfl)) at_415 (pc' := 418) rfl (k' := 3) (n' := 134) rfl rfl (by decide) (by decide) ?_
  intro h110 b110 E110 fb110 gb110 A110 D110
  have ne_bt_b110 : bt ≠ b110 := Nat.ne_of_lt (Nat.lt_of_lt_of_le A.lt fb110)
  have ne_b109_b110 : b109 ≠ b110 := Nat.ne_of_lt (Nat.lt_of_lt_of_le A109.lt fb110)
  have A := A.ext E110
  have X := X.ext E110
  have A109 := A109.ext E110
  have F110_kind : Fld Z h110 b110 "com/example/longhaul/longhaul/Iso8583AsciiCodec$FieldFormat" "kind" "Lcom/example/longhaul/longhaul/Iso8583AsciiCodec$LengthKind;" .null := D110 (Or.inr (hw _ (List.mem_of_getElem? (i := 23) rfl))) (ty := (.object "com/example/longhaul/longhaul/Iso8583AsciiCodec$LengthKind")) (by decide)
  have F110_maxLength : Fld Z h110 b110 "com/example/longhaul/longhaul/Iso8583AsciiCodec$FieldFormat" "maxLength" "I" (.int (0 : Int32)) := D110 (Or.inr (hw _ (List.mem_of_getElem? (i := 25) rfl))) (ty := .int) (by decide)
  refine g_dup C at_418 (pc' := 419) rfl rfl ?_
  refine g_aload C at_419 (pc' := 421) rfl rfl rfl ?_
  refine g_iload C at_421 (pc' := 423) rfl rfl ?_
  refine g_special (rm := R_s_ff) (a := b110) C (y := (⟨"com/example/longhaul/longhaul/Iso8583AsciiCodec$FieldFormat", "<init>", "(Lcom/example/longhaul/longhaul/Iso8583AsciiCodec$LengthKind;I)V"⟩ : MethodName)) rfl (hw _ (List.mem_of_getElem? (i := 11) rfl)) (hw _ (List.mem_of_getElem? (i := 12) rfl)) (hw _ (List.mem_of_getElem? (i := 13) rfl)) (by decide) at_423 (pc' := 426) rfl (argsL := [(.ref kd), (.int M)]) (rest := [(.ref b110)]) (lenOf pd_17 rfl) rfl (W := 1) (Nat.le_of_eq rfl) rfl (fun hn9 => Met.back (rm := R_s_ff) (s_ff hw b110 kd M F110_kind F110_maxLength A110 gb110) hn9 C.hZ (hw _ (List.mem_of_getElem? (i := 13) rfl)) (hw _ (List.mem_of_getElem? (i := 10) rfl)) (by decide) (by decide)) (k' := 3) (n' := 134) rfl rfl (by decide) (by decide) ?_
  rintro _ h111 ⟨rfl, Kf, Ef, Fk, Fm⟩
  have A := A.keep Kf (ninS ne_bt_b110 nin0)
  have X := X.keep Kf (allS gb110 all0)
  have A109 := A109.keep Kf (ninS ne_b109_b110 nin0)
  show Go w l _ n0 _ h111 3 134 426 #[.val (.int p0), .val (.int p1), .val (.int p2), .val (.int p3), .val (.long q4), .second, .val (.int kx), .val (.ref kd), .val (.int (3 : Int32)), .val (.int (125 : Int32)), .val (.int (Int32.ofNat N)), .val (.int (Int32.ofNat (125 - N))), .val (.int (Int32.ofNat s)), .val (.int (Int32.ofNat (s + 3))), .val (.int sl), .val (.int M), .val (.ref bt), .val (.int (Int32.ofNat m)), .val (.ref b109), .val (.int (p3 &&& (3 : Int32))), .unset, .unset, .unset, .unset] [(.ref b110)]
  refine g_astore C at_426 (pc' := 428) rfl rfl (Ls' := #[.val (.int p0), .val (.int p1), .val (.int p2), .val (.int p3), .val (.long q4), .second, .val (.int kx), .val (.ref kd), .val (.int (3 : Int32)), .val (.int (125 : Int32)), .val (.int (Int32.ofNat N)), .val (.int (Int32.ofNat (125 - N))), .val (.int (Int32.ofNat s)), .val (.int (Int32.ofNat (s + 3))), .val (.int sl), .val (.int M), .val (.ref bt), .val (.int (Int32.ofNat m)), .val (.ref b109), .val (.int (p3 &&& (3 : Int32))), .val (.ref b110), .unset, .unset, .unset]) rfl ?_
  refine g_aload C at_428 (pc' := 430) rfl rfl rfl ?_
  refine g_iloadN C at_430 (pc' := 431) rfl rfl ?_
  refine g_aload C at_431 (pc' := 433) rfl rfl rfl ?_
  refine g_iload C at_433 (pc' := 435) rfl rfl ?_
  refine g_aload C at_435 (pc' := 437) rfl rfl rfl ?_
  refine g_iload C at_437 (pc' := 439) rfl rfl ?_
  refine g_virtual (rm := R_rd3) (a := b110) C (y := (⟨"com/example/longhaul/longhaul/Iso8583AsciiCodec$FieldFormat", "read", "(I[BI[Ljava/lang/String;I)I"⟩ : MethodName)) (y' := (⟨"com/example/longhaul/longhaul/Iso8583AsciiCodec$FieldFormat", "read", "(I[BI[Ljava/lang/String;I)I"⟩ : MethodName)) (hw _ (List.mem_of_getElem? (i := 26) rfl)) (hw _ (List.mem_of_getElem? (i := 27) rfl)) (g_nf C (hw _ (List.mem_of_getElem? (i := 29) rfl))) (hw _ (List.mem_of_getElem? (i := 29) rfl)) (hw _ (List.mem_of_getElem? (i := 28) rfl)) (by decide) Ef at_439 (pc' := 442) rfl (argsL := [(.int p3), (.ref bt), (.int (Int32.ofNat s)), (.ref b109), (.int (p3 &&& (3 : Int32)))]) (rest := []) (lenOf pd_18 rfl) rfl (W := 0) (Nat.le_of_eq rfl) rfl (fun hn9 => Met.back (rm := R_rd3) (rd3 hw b110 kd bt b109 cs u8 iso s N F M (p3 &&& 3) p3 G1 G3 Fk Fm (Fd.ext X.2) A A109 V109 gb109 ne_bt_b109 (own_i3 p3).1 (own_i3 p3).2 hF hPN O2 P5 Ou Oi Oa ne_cs_u8 ne_cs_iso X (Ecs.ext X.2) O4 rG3 Os (by rw [hg0, own_dgv (by rw [own_q100 (by omega)]; omega), own_q100 (by omega)]; omega) (by rw [hg1, own_dgv (by rw [own_qr (by omega)]; omega), own_qr (by omega)]; omega) (by rw [hg2, own_dgv (by rw [own_r10 (by omega)]; omega), own_r10 (by omega)]; omega) (own_v3 (by omega) (by rw [hg0, own_dgv (by rw [own_q100 (by omega)]; omega), own_q100 (by omega)]) (by rw [hg1, own_dgv (by rw [own_qr (by omega)]; omega), own_qr (by omega)]) (by rw [hg2, own_dgv (by rw [own_r10 (by omega)]; omega), own_r10 (by omega)])) hM h1) hn9 C.hZ (hw _ (List.mem_of_getElem? (i := 30) rfl)) (hw _ (List.mem_of_getElem? (i := 10) rfl)) (by decide) (by decide)) (k' := 5) (n' := 266) rfl rfl (by decide) (by decide) ?_
  rintro _ h9 ⟨x, rfl, X, A, Vs, E, t2, Fc, Fv, B⟩
  show Go w l _ n0 _ h9 5 266 442 #[.val (.int p0), .val (.int p1), .val (.int p2), .val (.int p3), .val (.long q4), .second, .val (.int kx), .val (.ref kd), .val (.int (3 : Int32)), .val (.int (125 : Int32)), .val (.int (Int32.ofNat N)), .val (.int (Int32.ofNat (125 - N))), .val (.int (Int32.ofNat s)), .val (.int (Int32.ofNat (s + 3))), .val (.int sl), .val (.int M), .val (.ref bt), .val (.int (Int32.ofNat m)), .val (.ref b109), .val (.int (p3 &&& (3 : Int32))), .val (.ref b110), .unset, .unset, .unset] [(.int (Int32.ofNat ((s + 3) + N)))]
  refine g_istore C at_442 (pc' := 444) rfl (Ls' := #[.val (.int p0), .val (.int p1), .val (.int p2), .val (.int p3), .val (.long q4), .second, .val (.int kx), .val (.ref kd), .val (.int (3 : Int32)), .val (.int (125 : Int32)), .val (.int (Int32.ofNat N)), .val (.int (Int32.ofNat (125 - N))), .val (.int (Int32.ofNat s)), .val (.int (Int32.ofNat (s + 3))), .val (.int sl), .val (.int M), .val (.ref bt), .val (.int (Int32.ofNat m)), .val (.ref b109), .val (.int (p3 &&& (3 : Int32))), .val (.ref b110), .val (.int (Int32.ofNat ((s + 3) + N))), .unset, .unset]) rfl ?_
  refine g_aload C at_444 (pc' := 446) rfl rfl rfl ?_
  refine g_iload C at_446 (pc' := 448) rfl rfl ?_
  refine g_aaload C rfl (v := (.ref x)) Vs (own_i3 p3).1 (own_i3 p3).2 (upd_same _ _ _) at_448 (pc' := 449) rfl ?_
  refine g_astore C at_449 (pc' := 451) rfl rfl (Ls' := #[.val (.int p0), .val (.int p1), .val (.int p2), .val (.int p3), .val (.long q4), .second, .val (.int kx), .val (.ref kd), .val (.int (3 : Int32)), .val (.int (125 : Int32)), .val (.int (Int32.ofNat N)), .val (.int (Int32.ofNat (125 - N))), .val (.int (Int32.ofNat s)), .val (.int (Int32.ofNat (s + 3))), .val (.int sl), .val (.int M), .val (.ref bt), .val (.int (Int32.ofNat m)), .val (.ref b109), .val (.int (p3 &&& (3 : Int32))), .val (.ref b110), .val (.int (Int32.ofNat ((s + 3) + N))), .val (.ref x), .unset]) rfl ?_
  exact e451_3 (C := C) hw p0 p1 p2 p3 q4 kx (Int32.ofNat (125 - N)) sl M (p3 &&& 3) G1 G3 kd bt b109 b110 x t2 s N m F CW A Vs E Fc Fv B hF hPN (own_i3 p3).1 O2 P5 X O4 rG3 h1 hm
set_option maxRecDepth 65536 in
set_option maxHeartbeats 40000000 in
theorem f374_3 {l : Launch} {Z : State} {a0 : Array Value} (hw : ∀ d ∈ tables_1, d.before a0 Z = true) {w : Wk} {n0 : Nat} {h0 : Heap} {Y : State → Outcome → Prop} (p0 p1 p2 p3 : Int32) (q4 : Int64) (kx G1 sl M : Int32) (G3 : Value) (kd cs u8 iso bt : Addr) (s N m : Nat) (F : Nat → Int32) (C : Cx w Z "com/example/longhaul/longhaul/FieldFormatReadPinLaw" code 24 (some .boolean) "law" room_1 n0 (fun v _ => v = some (.int 1)) Y) (CW : LvW w room_1 n0 (fun v _ => v = some (.int 1)) Y) (Fd : Fld Z Z.heap kd "com/example/longhaul/longhaul/Iso8583AsciiCodec$LengthKind" "digits" "I" (.int 3)) (O2 : Sta Z Z.heap "java/lang/String" "COMPACT_STRINGS" "Z" (.int G1)) (P5 : ¬ G1 = 0) (Ou : Sta Z Z.heap "sun/nio/cs/UTF_8" "INSTANCE" "Lsun/nio/cs/UTF_8;" (.ref u8)) (Oi : Sta Z Z.heap "sun/nio/cs/ISO_8859_1" "INSTANCE" "Lsun/nio/cs/ISO_8859_1;" (.ref iso)) (Oa : Sta Z Z.heap "sun/nio/cs/US_ASCII" "INSTANCE" "Lsun/nio/cs/US_ASCII;" (.ref cs)) (ne_cs_u8 : cs ≠ u8) (ne_cs_iso : cs ≠ iso) (Ecs : Exa Z Z.heap cs "sun/nio/cs/US_ASCII") (O4 : Sta Z Z.heap "jdk/internal/util/Preconditions" "SIOOBE_FORMATTER" "Ljava/util/function/BiFunction;" G3) (rG3 : G3.isRef = true) (Os : Sta Z Z.heap "java/nio/charset/StandardCharsets" "US_ASCII" "Ljava/nio/charset/Charset;" (.ref cs)) (hh : Jvm.Lit.constHeld Z "java/lang/String" 7) (hcw : Jvm.Lit.compactW.before a0 Z = true) (hI : w.s.vm.interned = Z.vm.interned) (hPN : (s + 3) + N ≤ 128) (h1 : 1 ≤ N) (hm : m < N) (hN : N ≤ 125) (hM : ¬ M < Int32.ofNat N) (X : Old Z n0 h0) (A : Arf Z h0 bt "[B" .byte (128 : Int32) (fun j => .int (F j))) (gb : n0 ≤ bt) (hF : own_ok F) (hg0 : F s = own_dg (Int32.ofNat N / 100)) (hg1 : F (s + 1) = own_dg ((Int32.ofNat N / 10) % 10)) (hg2 : F (s + 1 + 1) = own_dg (Int32.ofNat N % 10)) :
    Go w l room_1 n0 Y h0 1 128 374 #[.val (.int p0), .val (.int p1), .val (.int p2), .val (.int p3), .val (.long q4), .second, .val (.int kx), .val (.ref kd), .val (.int (3 : Int32)), .val (.int (125 : Int32)), .val (.int (Int32.ofNat N)), .val (.int (Int32.ofNat (125 - N))), .val (.int (Int32.ofNat s)), .val (.int (Int32.ofNat (s + 3))), .val (.int sl), .val (.int M), .val (.ref bt), .val (.int (Int32.ofNat m)), .unset, .unset, .unset, .unset, .unset, .unset] [] := by
  refine g_iload C at_374 (pc' := 376) rfl rfl ?_
  refine g_iload C at_376 (pc' := 378) rfl rfl ?_
  refine g_iadd C at_378 (pc' := 379) rfl ?_
  rw [← Int32.ofNat_add]
  show Go w l _ n0 _ h0 1 128 379 #[.val (.int p0), .val (.int p1), .val (.int p2), .val (.int p3), .val (.long q4), .second, .val (.int kx), .val (.ref kd), .val (.int (3 : Int32)), .val (.int (125 : Int32)), .val (.int (Int32.ofNat N)), .val (.int (Int32.ofNat (125 - N))), .val (.int (Int32.ofNat s)), .val (.int (Int32.ofNat (s + 3))), .val (.int sl), .val (.int M), .val (.ref bt), .val (.int (Int32.ofNat m)), .unset, .unset, .unset, .unset, .unset, .unset] [(.int (Int32.ofNat ((s + 3) + N)))]
  refine g_sipush C (z := (128 : Int32)) at_379 (pc' := 382) rfl rfl ?_
  refine g_icmp_ge C at_382 (by decide) (pc' := 404) (by decide) (pcN := 385) rfl (fun q382 => ?_) (fun q382 => ?_)
  · exact f404_3 (C := C) hw p0 p1 p2 p3 q4 kx G1 sl M G3 kd cs u8 iso bt s N m F CW Fd O2 P5 Ou Oi Oa ne_cs_u8 ne_cs_iso Ecs O4 rG3 Os hh hcw hI hPN h1 hm hN hM X A gb hF hg0 hg1 hg2
  · have z382 : (s + 3) + N < 128 := own_ge128 q382 (by omega)
    refine g_aload C at_385 (pc' := 387) rfl rfl rfl ?_
    refine g_iload C at_387 (pc' := 389) rfl rfl ?_
    refine g_iload C at_389 (pc' := 391) rfl rfl ?_
    refine g_iadd C at_391 (pc' := 392) rfl ?_
    rw [← Int32.ofNat_add]
    show Go w l _ n0 _ h0 1 128 392 #[.val (.int p0), .val (.int p1), .val (.int p2), .val (.int p3), .val (.long q4), .second, .val (.int kx), .val (.ref kd), .val (.int (3 : Int32)), .val (.int (125 : Int32)), .val (.int (Int32.ofNat N)), .val (.int (Int32.ofNat (125 - N))), .val (.int (Int32.ofNat s)), .val (.int (Int32.ofNat (s + 3))), .val (.int sl), .val (.int M), .val (.ref bt), .val (.int (Int32.ofNat m)), .unset, .unset, .unset, .unset, .unset, .unset] [(.int (Int32.ofNat ((s + 3) + N))), (.ref bt)]
    refine g_lload C at_392 (pc' := 394) rfl rfl ?_
    refine g_bipush C (z := (32 : Int32)) at_394 (pc' := 396) rfl rfl ?_
    refine g_lushr C at_396 (pc' := 397) rfl ?_
    refine g_ldc2J C (hw _ (List.mem_of_getElem? (i := 5) rfl)) at_397 (pc' := 400) rfl ?_
    refine g_land C at_400 (pc' := 401) rfl ?_
    refine g_l2i C at_401 (pc' := 402) rfl ?_
    refine g_i2b C at_402 (pc' := 403) rfl ?_
    refine g_bastore C A (n32_nn (by omega)) (n32_lt (n := 128) (by omega) (by omega)) at_403 (pc' := 404) rfl gb (fun h112 W113 A' => ?_)
    have X := X.wr W113 gb
    have A : Arf Z h112 bt "[B" .byte (128 : Int32) (upd (fun j => .int (F j)) (Int32.ofNat ((s + 3) + N)).toNatClampNeg (.int (nar .byte (((((q4.toUInt64 >>> ((32 : Int32) &&& 0x3f).toInt64.toUInt64).toInt64) &&& (127 : Int64)).toInt32).toInt8.toInt32)))) := A'
    have A : Arf Z h112 bt "[B" .byte (128 : Int32) (fun j => .int ((own_w F ((s + 3) + N) (nar .byte (((((q4.toUInt64 >>> ((32 : Int32) &&& 0x3f).toInt64.toUInt64).toInt64) &&& (127 : Int64)).toInt32).toInt8.toInt32))) j)) := A.congr fun j _ => own_wr (by omega) (nar .byte (((((q4.toUInt64 >>> ((32 : Int32) &&& 0x3f).toInt64.toUInt64).toInt64) &&& (127 : Int64)).toInt32).toInt8.toInt32)) j
    exact f404_3 (C := C) hw p0 p1 p2 p3 q4 kx G1 sl M G3 kd cs u8 iso bt s N m (own_w F ((s + 3) + N) (nar .byte (((((q4.toUInt64 >>> ((32 : Int32) &&& 0x3f).toInt64.toUInt64).toInt64) &&& (127 : Int64)).toInt32).toInt8.toInt32))) CW Fd O2 P5 Ou Oi Oa ne_cs_u8 ne_cs_iso Ecs O4 rG3 Os hh hcw hI hPN h1 hm hN hM X A gb (own_okw hF (own_v7 _)) ((own_wne (by omega)).trans hg0) ((own_wne (by omega)).trans hg1) ((own_wne (by omega)).trans hg2)
set_option maxRecDepth 65536 in
set_option maxHeartbeats 40000000 in
theorem g310_0z {l : Launch} {Z : State} {a0 : Array Value} (hw : ∀ d ∈ tables_1, d.before a0 Z = true) {w : Wk} {n0 : Nat} {h0 : Heap} {Y : State → Outcome → Prop} (p0 p1 p2 p3 : Int32) (q4 : Int64) (kx G1 sl M : Int32) (G3 : Value) (kd cs u8 iso bt : Addr) (s : Nat) (F : Nat → Int32) (C : Cx w Z "com/example/longhaul/longhaul/FieldFormatReadPinLaw" code 24 (some .boolean) "law" room_1 n0 (fun v _ => v = some (.int 1)) Y) (CW : LvW w room_1 n0 (fun v _ => v = some (.int 1)) Y) (Fd : Fld Z Z.heap kd "com/example/longhaul/longhaul/Iso8583AsciiCodec$LengthKind" "digits" "I" (.int 0)) (O2 : Sta Z Z.heap "java/lang/String" "COMPACT_STRINGS" "Z" (.int G1)) (P5 : ¬ G1 = 0) (Ou : Sta Z Z.heap "sun/nio/cs/UTF_8" "INSTANCE" "Lsun/nio/cs/UTF_8;" (.ref u8)) (Oi : Sta Z Z.heap "sun/nio/cs/ISO_8859_1" "INSTANCE" "Lsun/nio/cs/ISO_8859_1;" (.ref iso)) (Oa : Sta Z Z.heap "sun/nio/cs/US_ASCII" "INSTANCE" "Lsun/nio/cs/US_ASCII;" (.ref cs)) (ne_cs_u8 : cs ≠ u8) (ne_cs_iso : cs ≠ iso) (Ecs : Exa Z Z.heap cs "sun/nio/cs/US_ASCII") (O4 : Sta Z Z.heap "jdk/internal/util/Preconditions" "SIOOBE_FORMATTER" "Ljava/util/function/BiFunction;" G3) (rG3 : G3.isRef = true) (Os : Sta Z Z.heap "java/nio/charset/StandardCharsets" "US_ASCII" "Ljava/nio/charset/Charset;" (.ref cs)) (hh : Jvm.Lit.constHeld Z "java/lang/String" 7) (hcw : Jvm.Lit.compactW.before a0 Z = true) (hI : w.s.vm.interned = Z.vm.interned) (hPN : s + 0 ≤ 128) (X : Old Z n0 h0) (A : Arf Z h0 bt "[B" .byte (128 : Int32) (fun j => .int (F j))) (gb : n0 ≤ bt) (hF : own_ok F)  :
    Go w l room_1 n0 Y h0 1 128 310 #[.val (.int p0), .val (.int p1), .val (.int p2), .val (.int p3), .val (.long q4), .second, .val (.int kx), .val (.ref kd), .val (.int (0 : Int32)), .val (.int (128 : Int32)), .val (.int (Int32.ofNat 0)), .val (.int (Int32.ofNat (128 - 0))), .val (.int (Int32.ofNat s)), .val (.int (Int32.ofNat s)), .val (.int sl), .val (.int (Int32.ofNat 0)), .val (.ref bt), .unset, .unset, .unset, .unset, .unset, .unset, .unset] [] := by
  refine g_iconst C (z := (0 : Int32)) at_310 (pc' := 311) rfl rfl ?_
  refine g_istore C at_311 (pc' := 313) rfl (Ls' := #[.val (.int p0), .val (.int p1), .val (.int p2), .val (.int p3), .val (.long q4), .second, .val (.int kx), .val (.ref kd), .val (.int (0 : Int32)), .val (.int (128 : Int32)), .val (.int (Int32.ofNat 0)), .val (.int (Int32.ofNat (128 - 0))), .val (.int (Int32.ofNat s)), .val (.int (Int32.ofNat s)), .val (.int sl), .val (.int (Int32.ofNat 0)), .val (.ref bt), .val (.int (0 : Int32)), .unset, .unset, .unset, .unset, .unset, .unset]) rfl ?_
  refine g_iload C at_313 (pc' := 315) rfl rfl ?_
  refine g_if_le C at_315 (by decide) (pc' := 374) (by decide) (pcN := 318) rfl (fun _ => ?_) (fun q => absurd q (by decide))
  exact f374_0z (C := C) hw p0 p1 p2 p3 q4 kx G1 sl M G3 kd cs u8 iso bt s 0 F CW Fd O2 P5 Ou Oi Oa ne_cs_u8 ne_cs_iso Ecs O4 rG3 Os hh hcw hI hPN X A gb hF 
set_option maxRecDepth 65536 in
set_option maxHeartbeats 40000000 in
theorem g289_0 {l : Launch} {Z : State} {a0 : Array Value} (hw : ∀ d ∈ tables_1, d.before a0 Z = true) {w : Wk} {n0 : Nat} {h0 : Heap} {Y : State → Outcome → Prop} (p0 p1 p2 p3 : Int32) (q4 : Int64) (kx G1 sl M : Int32) (G3 : Value) (kd cs u8 iso bt : Addr) (s N : Nat) (F : Nat → Int32) (C : Cx w Z "com/example/longhaul/longhaul/FieldFormatReadPinLaw" code 24 (some .boolean) "law" room_1 n0 (fun v _ => v = some (.int 1)) Y) (CW : LvW w room_1 n0 (fun v _ => v = some (.int 1)) Y) (Fd : Fld Z Z.heap kd "com/example/longhaul/longhaul/Iso8583AsciiCodec$LengthKind" "digits" "I" (.int 0)) (O2 : Sta Z Z.heap "java/lang/String" "COMPACT_STRINGS" "Z" (.int G1)) (P5 : ¬ G1 = 0) (Ou : Sta Z Z.heap "sun/nio/cs/UTF_8" "INSTANCE" "Lsun/nio/cs/UTF_8;" (.ref u8)) (Oi : Sta Z Z.heap "sun/nio/cs/ISO_8859_1" "INSTANCE" "Lsun/nio/cs/ISO_8859_1;" (.ref iso)) (Oa : Sta Z Z.heap "sun/nio/cs/US_ASCII" "INSTANCE" "Lsun/nio/cs/US_ASCII;" (.ref cs)) (ne_cs_u8 : cs ≠ u8) (ne_cs_iso : cs ≠ iso) (Ecs : Exa Z Z.heap cs "sun/nio/cs/US_ASCII") (O4 : Sta Z Z.heap "jdk/internal/util/Preconditions" "SIOOBE_FORMATTER" "Ljava/util/function/BiFunction;" G3) (rG3 : G3.isRef = true) (Os : Sta Z Z.heap "java/nio/charset/StandardCharsets" "US_ASCII" "Ljava/nio/charset/Charset;" (.ref cs)) (hh : Jvm.Lit.constHeld Z "java/lang/String" 7) (hcw : Jvm.Lit.compactW.before a0 Z = true) (hI : w.s.vm.interned = Z.vm.interned) (hPN : s + N ≤ 128) (hN : N ≤ 128) (X : Old Z n0 h0) (A : Arf Z h0 bt "[B" .byte (128 : Int32) (fun j => .int (F j))) (gb : n0 ≤ bt) (hF : own_ok F)  :
    Go w l room_1 n0 Y h0 1 128 289 #[.val (.int p0), .val (.int p1), .val (.int p2), .val (.int p3), .val (.long q4), .second, .val (.int kx), .val (.ref kd), .val (.int (0 : Int32)), .val (.int (128 : Int32)), .val (.int (Int32.ofNat N)), .val (.int (Int32.ofNat (128 - N))), .val (.int (Int32.ofNat s)), .val (.int (Int32.ofNat s)), .val (.int sl), .val (.int (Int32.ofNat N)), .val (.ref bt), .unset, .unset, .unset, .unset, .unset, .unset, .unset] [] := by
  refine g_iload C at_289 (pc' := 291) rfl rfl ?_
  refine g_if_le C at_291 (by decide) (pc' := 310) (by decide) (pcN := 294) rfl (fun q291 => ?_) (fun q291 => ?_)
  · exact (by
          obtain rfl : N = 0 := own_nz0 q291 (by omega)
          exact g310_0z (C := C) hw p0 p1 p2 p3 q4 kx G1 sl M G3 kd cs u8 iso bt s F CW Fd O2 P5 Ou Oi Oa ne_cs_u8 ne_cs_iso Ecs O4 rG3 Os hh hcw hI hPN X A gb hF )
  · have h1 : 1 ≤ N := own_nz1 q291 (by omega)
    refine g_lload C at_294 (pc' := 296) rfl rfl ?_
    refine g_bipush C (z := (40 : Int32)) at_296 (pc' := 298) rfl rfl ?_
    refine g_lushr C at_298 (pc' := 299) rfl ?_
    refine g_ldc2J C (hw _ (List.mem_of_getElem? (i := 5) rfl)) at_299 (pc' := 302) rfl ?_
    refine g_land C at_302 (pc' := 303) rfl ?_
    refine g_l2i C at_303 (pc' := 304) rfl ?_
    refine g_iload C at_304 (pc' := 306) rfl rfl ?_
    refine g_irem C at_306 (pc' := 307) rfl (own_n0 h1 (by omega)) ?_
    refine g_goto C at_307 (by decide) (pc' := 311) (by decide) ?_
    obtain ⟨m, hm, em⟩ := own_m7 ((q4.toUInt64 >>> ((40 : Int32) &&& 0x3f).toInt64.toUInt64).toInt64) h1 (by omega)
    rw [em]
    show Go w l _ n0 _ h0 1 128 311 #[.val (.int p0), .val (.int p1), .val (.int p2), .val (.int p3), .val (.long q4), .second, .val (.int kx), .val (.ref kd), .val (.int (0 : Int32)), .val (.int (128 : Int32)), .val (.int (Int32.ofNat N)), .val (.int (Int32.ofNat (128 - N))), .val (.int (Int32.ofNat s)), .val (.int (Int32.ofNat s)), .val (.int sl), .val (.int (Int32.ofNat N)), .val (.ref bt), .unset, .unset, .unset, .unset, .unset, .unset, .unset] [(.int (Int32.ofNat m))]
    refine g_istore C at_311 (pc' := 313) rfl (Ls' := #[.val (.int p0), .val (.int p1), .val (.int p2), .val (.int p3), .val (.long q4), .second, .val (.int kx), .val (.ref kd), .val (.int (0 : Int32)), .val (.int (128 : Int32)), .val (.int (Int32.ofNat N)), .val (.int (Int32.ofNat (128 - N))), .val (.int (Int32.ofNat s)), .val (.int (Int32.ofNat s)), .val (.int sl), .val (.int (Int32.ofNat N)), .val (.ref bt), .val (.int (Int32.ofNat m)), .unset, .unset, .unset, .unset, .unset, .unset]) rfl ?_
    refine g_iload C at_313 (pc' := 315) rfl rfl ?_
    refine g_if_le C at_315 (by decide) (pc' := 374) (by decide) (pcN := 318) rfl (fun q => absurd q291 q) (fun _ => ?_)
    refine g_aload C at_318 (pc' := 320) rfl rfl rfl ?_
    refine g_iload C at_320 (pc' := 322) rfl rfl ?_
    refine g_lload C at_322 (pc' := 324) rfl rfl ?_
    refine g_bipush C (z := (8 : Int32)) at_324 (pc' := 326) rfl rfl ?_
    refine g_lushr C at_326 (pc' := 327) rfl ?_
    refine g_ldc2J C (hw _ (List.mem_of_getElem? (i := 5) rfl)) at_327 (pc' := 330) rfl ?_
    refine g_land C at_330 (pc' := 331) rfl ?_
    refine g_l2i C at_331 (pc' := 332) rfl ?_
    refine g_i2b C at_332 (pc' := 333) rfl ?_
    refine g_bastore C A (n32_nn (by omega)) (n32_lt (n := 128) (by omega) (by omega)) at_333 (pc' := 334) rfl gb (fun h114 W115 A' => ?_)
    have X := X.wr W115 gb
    have A : Arf Z h114 bt "[B" .byte (128 : Int32) (upd (fun j => .int (F j)) (Int32.ofNat s).toNatClampNeg (.int (nar .byte (((((q4.toUInt64 >>> ((8 : Int32) &&& 0x3f).toInt64.toUInt64).toInt64) &&& (127 : Int64)).toInt32).toInt8.toInt32)))) := A'
    have A : Arf Z h114 bt "[B" .byte (128 : Int32) (fun j => .int ((own_w F s (nar .byte (((((q4.toUInt64 >>> ((8 : Int32) &&& 0x3f).toInt64.toUInt64).toInt64) &&& (127 : Int64)).toInt32).toInt8.toInt32))) j)) := A.congr fun j _ => own_wr (by omega) (nar .byte (((((q4.toUInt64 >>> ((8 : Int32) &&& 0x3f).toInt64.toUInt64).toInt64) &&& (127 : Int64)).toInt32).toInt8.toInt32)) j
    refine g_aload C at_334 (pc' := 336) rfl rfl rfl ?_
    refine g_iload C at_336 (pc' := 338) rfl rfl ?_
    refine g_iload C at_338 (pc' := 340) rfl rfl ?_
    refine g_iadd C at_340 (pc' := 341) rfl ?_
    rw [← Int32.ofNat_add]
    show Go w l _ n0 _ h114 1 128 341 #[.val (.int p0), .val (.int p1), .val (.int p2), .val (.int p3), .val (.long q4), .second, .val (.int kx), .val (.ref kd), .val (.int (0 : Int32)), .val (.int (128 : Int32)), .val (.int (Int32.ofNat N)), .val (.int (Int32.ofNat (128 - N))), .val (.int (Int32.ofNat s)), .val (.int (Int32.ofNat s)), .val (.int sl), .val (.int (Int32.ofNat N)), .val (.ref bt), .val (.int (Int32.ofNat m)), .unset, .unset, .unset, .unset, .unset, .unset] [(.int (Int32.ofNat (s + N))), (.ref bt)]
    refine g_iconst C (z := (1 : Int32)) at_341 (pc' := 342) rfl rfl ?_
    refine g_isub C at_342 (pc' := 343) rfl ?_
    rw [own_pred (by omega) (by omega)]
    show Go w l _ n0 _ h114 1 128 343 #[.val (.int p0), .val (.int p1), .val (.int p2), .val (.int p3), .val (.long q4), .second, .val (.int kx), .val (.ref kd), .val (.int (0 : Int32)), .val (.int (128 : Int32)), .val (.int (Int32.ofNat N)), .val (.int (Int32.ofNat (128 - N))), .val (.int (Int32.ofNat s)), .val (.int (Int32.ofNat s)), .val (.int sl), .val (.int (Int32.ofNat N)), .val (.ref bt), .val (.int (Int32.ofNat m)), .unset, .unset, .unset, .unset, .unset, .unset] [(.int (Int32.ofNat (s + N - 1))), (.ref bt)]
    refine g_lload C at_343 (pc' := 345) rfl rfl ?_
    refine g_bipush C (z := (16 : Int32)) at_345 (pc' := 347) rfl rfl ?_
    refine g_lushr C at_347 (pc' := 348) rfl ?_
    refine g_ldc2J C (hw _ (List.mem_of_getElem? (i := 5) rfl)) at_348 (pc' := 351) rfl ?_
    refine g_land C at_351 (pc' := 352) rfl ?_
    refine g_l2i C at_352 (pc' := 353) rfl ?_
    refine g_i2b C at_353 (pc' := 354) rfl ?_
    refine g_bastore C A (n32_nn (by omega)) (n32_lt (n := 128) (by omega) (by omega)) at_354 (pc' := 355) rfl gb (fun h116 W117 A' => ?_)
    have X := X.wr W117 gb
    have A : Arf Z h116 bt "[B" .byte (128 : Int32) (upd (fun j => .int ((own_w F s (nar .byte (((((q4.toUInt64 >>> ((8 : Int32) &&& 0x3f).toInt64.toUInt64).toInt64) &&& (127 : Int64)).toInt32).toInt8.toInt32))) j)) (Int32.ofNat (s + N - 1)).toNatClampNeg (.int (nar .byte (((((q4.toUInt64 >>> ((16 : Int32) &&& 0x3f).toInt64.toUInt64).toInt64) &&& (127 : Int64)).toInt32).toInt8.toInt32)))) := A'
    have A : Arf Z h116 bt "[B" .byte (128 : Int32) (fun j => .int ((own_w (own_w F s (nar .byte (((((q4.toUInt64 >>> ((8 : Int32) &&& 0x3f).toInt64.toUInt64).toInt64) &&& (127 : Int64)).toInt32).toInt8.toInt32))) (s + N - 1) (nar .byte (((((q4.toUInt64 >>> ((16 : Int32) &&& 0x3f).toInt64.toUInt64).toInt64) &&& (127 : Int64)).toInt32).toInt8.toInt32))) j)) := A.congr fun j _ => own_wr (by omega) (nar .byte (((((q4.toUInt64 >>> ((16 : Int32) &&& 0x3f).toInt64.toUInt64).toInt64) &&& (127 : Int64)).toInt32).toInt8.toInt32)) j
    refine g_aload C at_355 (pc' := 357) rfl rfl rfl ?_
    refine g_iload C at_357 (pc' := 359) rfl rfl ?_
    refine g_iload C at_359 (pc' := 361) rfl rfl ?_
    refine g_iadd C at_361 (pc' := 362) rfl ?_
    rw [← Int32.ofNat_add]
    show Go w l _ n0 _ h116 1 128 362 #[.val (.int p0), .val (.int p1), .val (.int p2), .val (.int p3), .val (.long q4), .second, .val (.int kx), .val (.ref kd), .val (.int (0 : Int32)), .val (.int (128 : Int32)), .val (.int (Int32.ofNat N)), .val (.int (Int32.ofNat (128 - N))), .val (.int (Int32.ofNat s)), .val (.int (Int32.ofNat s)), .val (.int sl), .val (.int (Int32.ofNat N)), .val (.ref bt), .val (.int (Int32.ofNat m)), .unset, .unset, .unset, .unset, .unset, .unset] [(.int (Int32.ofNat (s + m))), (.ref bt)]
    refine g_lload C at_362 (pc' := 364) rfl rfl ?_
    refine g_bipush C (z := (24 : Int32)) at_364 (pc' := 366) rfl rfl ?_
    refine g_lushr C at_366 (pc' := 367) rfl ?_
    refine g_ldc2J C (hw _ (List.mem_of_getElem? (i := 5) rfl)) at_367 (pc' := 370) rfl ?_
    refine g_land C at_370 (pc' := 371) rfl ?_
    refine g_l2i C at_371 (pc' := 372) rfl ?_
    refine g_i2b C at_372 (pc' := 373) rfl ?_
    refine g_bastore C A (n32_nn (by omega)) (n32_lt (n := 128) (by omega) (by omega)) at_373 (pc' := 374) rfl gb (fun h118 W119 A' => ?_)
    have X := X.wr W119 gb
    have A : Arf Z h118 bt "[B" .byte (128 : Int32) (upd (fun j => .int ((own_w (own_w F s (nar .byte (((((q4.toUInt64 >>> ((8 : Int32) &&& 0x3f).toInt64.toUInt64).toInt64) &&& (127 : Int64)).toInt32).toInt8.toInt32))) (s + N - 1) (nar .byte (((((q4.toUInt64 >>> ((16 : Int32) &&& 0x3f).toInt64.toUInt64).toInt64) &&& (127 : Int64)).toInt32).toInt8.toInt32))) j)) (Int32.ofNat (s + m)).toNatClampNeg (.int (nar .byte (((((q4.toUInt64 >>> ((24 : Int32) &&& 0x3f).toInt64.toUInt64).toInt64) &&& (127 : Int64)).toInt32).toInt8.toInt32)))) := A'
    have A : Arf Z h118 bt "[B" .byte (128 : Int32) (fun j => .int ((own_w (own_w (own_w F s (nar .byte (((((q4.toUInt64 >>> ((8 : Int32) &&& 0x3f).toInt64.toUInt64).toInt64) &&& (127 : Int64)).toInt32).toInt8.toInt32))) (s + N - 1) (nar .byte (((((q4.toUInt64 >>> ((16 : Int32) &&& 0x3f).toInt64.toUInt64).toInt64) &&& (127 : Int64)).toInt32).toInt8.toInt32))) (s + m) (nar .byte (((((q4.toUInt64 >>> ((24 : Int32) &&& 0x3f).toInt64.toUInt64).toInt64) &&& (127 : Int64)).toInt32).toInt8.toInt32))) j)) := A.congr fun j _ => own_wr (by omega) (nar .byte (((((q4.toUInt64 >>> ((24 : Int32) &&& 0x3f).toInt64.toUInt64).toInt64) &&& (127 : Int64)).toInt32).toInt8.toInt32)) j
    exact f374_0 (C := C) hw p0 p1 p2 p3 q4 kx G1 sl M G3 kd cs u8 iso bt s N m (own_w (own_w (own_w F s (nar .byte (((((q4.toUInt64 >>> ((8 : Int32) &&& 0x3f).toInt64.toUInt64).toInt64) &&& (127 : Int64)).toInt32).toInt8.toInt32))) (s + N - 1) (nar .byte (((((q4.toUInt64 >>> ((16 : Int32) &&& 0x3f).toInt64.toUInt64).toInt64) &&& (127 : Int64)).toInt32).toInt8.toInt32))) (s + m) (nar .byte (((((q4.toUInt64 >>> ((24 : Int32) &&& 0x3f).toInt64.toUInt64).toInt64) &&& (127 : Int64)).toInt32).toInt8.toInt32))) CW Fd O2 P5 Ou Oi Oa ne_cs_u8 ne_cs_iso Ecs O4 rG3 Os hh hcw hI hPN h1 hm hN X A gb (own_okw (own_okw (own_okw hF (own_v7 _)) (own_v7 _)) (own_v7 _)) 
set_option maxRecDepth 65536 in
set_option maxHeartbeats 40000000 in
theorem g198_0 {l : Launch} {Z : State} {a0 : Array Value} (hw : ∀ d ∈ tables_1, d.before a0 Z = true) {w : Wk} {n0 : Nat} {h0 : Heap} {Y : State → Outcome → Prop} (p0 p1 p2 p3 : Int32) (q4 : Int64) (kx G1 sl M : Int32) (G3 : Value) (kd cs u8 iso bt : Addr) (s N : Nat) (F : Nat → Int32) (C : Cx w Z "com/example/longhaul/longhaul/FieldFormatReadPinLaw" code 24 (some .boolean) "law" room_1 n0 (fun v _ => v = some (.int 1)) Y) (CW : LvW w room_1 n0 (fun v _ => v = some (.int 1)) Y) (Fd : Fld Z Z.heap kd "com/example/longhaul/longhaul/Iso8583AsciiCodec$LengthKind" "digits" "I" (.int 0)) (O2 : Sta Z Z.heap "java/lang/String" "COMPACT_STRINGS" "Z" (.int G1)) (P5 : ¬ G1 = 0) (Ou : Sta Z Z.heap "sun/nio/cs/UTF_8" "INSTANCE" "Lsun/nio/cs/UTF_8;" (.ref u8)) (Oi : Sta Z Z.heap "sun/nio/cs/ISO_8859_1" "INSTANCE" "Lsun/nio/cs/ISO_8859_1;" (.ref iso)) (Oa : Sta Z Z.heap "sun/nio/cs/US_ASCII" "INSTANCE" "Lsun/nio/cs/US_ASCII;" (.ref cs)) (ne_cs_u8 : cs ≠ u8) (ne_cs_iso : cs ≠ iso) (Ecs : Exa Z Z.heap cs "sun/nio/cs/US_ASCII") (O4 : Sta Z Z.heap "jdk/internal/util/Preconditions" "SIOOBE_FORMATTER" "Ljava/util/function/BiFunction;" G3) (rG3 : G3.isRef = true) (Os : Sta Z Z.heap "java/nio/charset/StandardCharsets" "US_ASCII" "Ljava/nio/charset/Charset;" (.ref cs)) (hh : Jvm.Lit.constHeld Z "java/lang/String" 7) (hcw : Jvm.Lit.compactW.before a0 Z = true) (hI : w.s.vm.interned = Z.vm.interned) (hPN : s + N ≤ 128) (hN : N ≤ 128) (X : Old Z n0 h0) (A : Arf Z h0 bt "[B" .byte (128 : Int32) (fun j => .int (F j))) (gb : n0 ≤ bt) (hF : own_ok F) :
    Go w l room_1 n0 Y h0 1 128 198 #[.val (.int p0), .val (.int p1), .val (.int p2), .val (.int p3), .val (.long q4), .second, .val (.int kx), .val (.ref kd), .val (.int (0 : Int32)), .val (.int (128 : Int32)), .val (.int (Int32.ofNat N)), .val (.int (Int32.ofNat (128 - N))), .val (.int (Int32.ofNat s)), .val (.int (Int32.ofNat s)), .val (.int sl), .val (.int (Int32.ofNat N)), .val (.ref bt), .unset, .unset, .unset, .unset, .unset, .unset, .unset] [] := by
  refine g_iload C at_198 (pc' := 200) rfl rfl ?_
  refine g_iconst C (z := (2 : Int32)) at_200 (pc' := 201) rfl rfl ?_
  refine g_icmp_ne C at_201 (by decide) (pc' := 234) (by decide) (pcN := 204) rfl (fun _ => ?_) (fun q => absurd q (by decide))
  refine g_iload C at_234 (pc' := 236) rfl rfl ?_
  refine g_iconst C (z := (3 : Int32)) at_236 (pc' := 237) rfl rfl ?_
  refine g_icmp_ne C at_237 (by decide) (pc' := 289) (by decide) (pcN := 240) rfl (fun _ => ?_) (fun q => absurd q (by decide))
  exact g289_0 (C := C) hw p0 p1 p2 p3 q4 kx G1 sl M G3 kd cs u8 iso bt s N F CW Fd O2 P5 Ou Oi Oa ne_cs_u8 ne_cs_iso Ecs O4 rG3 Os hh hcw hI hPN hN X A gb hF 
set_option maxRecDepth 65536 in
set_option maxHeartbeats 40000000 in
theorem g171_0 {l : Launch} {Z : State} {a0 : Array Value} (hw : ∀ d ∈ tables_1, d.before a0 Z = true) {w : Wk} {n0 : Nat} {h0 : Heap} {Y : State → Outcome → Prop} (p0 p1 p2 p3 : Int32) (q4 : Int64) (kx G1 sl M : Int32) (G3 : Value) (kd cs u8 iso : Addr) (s N : Nat) (C : Cx w Z "com/example/longhaul/longhaul/FieldFormatReadPinLaw" code 24 (some .boolean) "law" room_1 n0 (fun v _ => v = some (.int 1)) Y) (CW : LvW w room_1 n0 (fun v _ => v = some (.int 1)) Y) (Fd : Fld Z Z.heap kd "com/example/longhaul/longhaul/Iso8583AsciiCodec$LengthKind" "digits" "I" (.int 0)) (O2 : Sta Z Z.heap "java/lang/String" "COMPACT_STRINGS" "Z" (.int G1)) (P5 : ¬ G1 = 0) (Ou : Sta Z Z.heap "sun/nio/cs/UTF_8" "INSTANCE" "Lsun/nio/cs/UTF_8;" (.ref u8)) (Oi : Sta Z Z.heap "sun/nio/cs/ISO_8859_1" "INSTANCE" "Lsun/nio/cs/ISO_8859_1;" (.ref iso)) (Oa : Sta Z Z.heap "sun/nio/cs/US_ASCII" "INSTANCE" "Lsun/nio/cs/US_ASCII;" (.ref cs)) (ne_cs_u8 : cs ≠ u8) (ne_cs_iso : cs ≠ iso) (Ecs : Exa Z Z.heap cs "sun/nio/cs/US_ASCII") (O4 : Sta Z Z.heap "jdk/internal/util/Preconditions" "SIOOBE_FORMATTER" "Ljava/util/function/BiFunction;" G3) (rG3 : G3.isRef = true) (Os : Sta Z Z.heap "java/nio/charset/StandardCharsets" "US_ASCII" "Ljava/nio/charset/Charset;" (.ref cs)) (hh : Jvm.Lit.constHeld Z "java/lang/String" 7) (hcw : Jvm.Lit.compactW.before a0 Z = true) (hI : w.s.vm.interned = Z.vm.interned) (hPN : s + N ≤ 128) (hN : N ≤ 128) (X : Old Z n0 h0) :
    Go w l room_1 n0 Y h0 0 0 171 #[.val (.int p0), .val (.int p1), .val (.int p2), .val (.int p3), .val (.long q4), .second, .val (.int kx), .val (.ref kd), .val (.int (0 : Int32)), .val (.int (128 : Int32)), .val (.int (Int32.ofNat N)), .val (.int (Int32.ofNat (128 - N))), .val (.int (Int32.ofNat s)), .val (.int (Int32.ofNat s)), .val (.int sl), .val (.int (Int32.ofNat N)), .unset, .unset, .unset, .unset, .unset, .unset, .unset, .unset] [] := by
  refine g_sipush C (z := (128 : Int32)) at_171 (pc' := 174) rfl rfl ?_
  refine g_newarr C (ad := "[B") (cap := 128) (hw _ (List.mem_of_getElem? (i := 4) rfl)) at_174 (pc' := 176) rfl rfl (by decide) (by decide) (by decide) (k' := 1) (n' := 128) rfl rfl (by decide) (by decide) rfl ?_
  intro h120 b120 E120 fb120 gb120 A120
  have X := X.ext E120
  have A120 : Arf Z h120 b120 "[B" .byte (128 : Int32) (fun _ => (.int 0)) := A120
  refine g_astore C at_176 (pc' := 178) rfl rfl (Ls' := #[.val (.int p0), .val (.int p1), .val (.int p2), .val (.int p3), .val (.long q4), .second, .val (.int kx), .val (.ref kd), .val (.int (0 : Int32)), .val (.int (128 : Int32)), .val (.int (Int32.ofNat N)), .val (.int (Int32.ofNat (128 - N))), .val (.int (Int32.ofNat s)), .val (.int (Int32.ofNat s)), .val (.int sl), .val (.int (Int32.ofNat N)), .val (.ref b120), .unset, .unset, .unset, .unset, .unset, .unset, .unset]) rfl ?_
  have A120 : Arf Z h120 b120 "[B" .byte (128 : Int32) (fun j => .int ((fun _ => (0 : Int32)) j)) := A120
  refine g_iload C at_178 (pc' := 180) rfl rfl ?_
  refine g_if_le C at_180 (by decide) (pc' := 198) (by decide) (pcN := 183) rfl (fun q180 => ?_) (fun q180 => ?_)
  · exact g198_0 (C := C) hw p0 p1 p2 p3 q4 kx G1 sl M G3 kd cs u8 iso b120 s N (fun _ => (0 : Int32)) CW Fd O2 P5 Ou Oi Oa ne_cs_u8 ne_cs_iso Ecs O4 rG3 Os hh hcw hI hPN hN X A120 gb120 own_ok0
  · refine g_aload C at_183 (pc' := 185) rfl rfl rfl ?_
    refine g_iload C at_185 (pc' := 187) rfl rfl ?_
    refine g_iconst C (z := (1 : Int32)) at_187 (pc' := 188) rfl rfl ?_
    refine g_isub C at_188 (pc' := 189) rfl ?_
    rw [own_pred (own_nz1 q180 (by omega)) (by omega)]
    show Go w l _ n0 _ h120 1 128 189 #[.val (.int p0), .val (.int p1), .val (.int p2), .val (.int p3), .val (.long q4), .second, .val (.int kx), .val (.ref kd), .val (.int (0 : Int32)), .val (.int (128 : Int32)), .val (.int (Int32.ofNat N)), .val (.int (Int32.ofNat (128 - N))), .val (.int (Int32.ofNat s)), .val (.int (Int32.ofNat s)), .val (.int sl), .val (.int (Int32.ofNat N)), .val (.ref b120), .unset, .unset, .unset, .unset, .unset, .unset, .unset] [(.int (Int32.ofNat (s - 1))), (.ref b120)]
    refine g_lload C at_189 (pc' := 191) rfl rfl ?_
    refine g_ldc2J C (hw _ (List.mem_of_getElem? (i := 5) rfl)) at_191 (pc' := 194) rfl ?_
    refine g_land C at_194 (pc' := 195) rfl ?_
    refine g_l2i C at_195 (pc' := 196) rfl ?_
    refine g_i2b C at_196 (pc' := 197) rfl ?_
    refine g_bastore C A120 (n32_nn (by omega)) (n32_lt (n := 128) (by omega) (by omega)) at_197 (pc' := 198) rfl gb120 (fun h121 W122 A120' => ?_)
    have X := X.wr W122 gb120
    have A120 : Arf Z h121 b120 "[B" .byte (128 : Int32) (upd (fun j => .int ((fun _ => (0 : Int32)) j)) (Int32.ofNat (s - 1)).toNatClampNeg (.int (nar .byte (((q4 &&& (127 : Int64)).toInt32).toInt8.toInt32)))) := A120'
    have A120 : Arf Z h121 b120 "[B" .byte (128 : Int32) (fun j => .int ((own_w (fun _ => (0 : Int32)) (s - 1) (nar .byte (((q4 &&& (127 : Int64)).toInt32).toInt8.toInt32))) j)) := A120.congr fun j _ => own_wr (by omega) (nar .byte (((q4 &&& (127 : Int64)).toInt32).toInt8.toInt32)) j
    exact g198_0 (C := C) hw p0 p1 p2 p3 q4 kx G1 sl M G3 kd cs u8 iso b120 s N (own_w (fun _ => (0 : Int32)) (s - 1) (nar .byte (((q4 &&& (127 : Int64)).toInt32).toInt8.toInt32))) CW Fd O2 P5 Ou Oi Oa ne_cs_u8 ne_cs_iso Ecs O4 rG3 Os hh hcw hI hPN hN X A120 gb120 (own_okw own_ok0 (own_v7 _))
set_option maxRecDepth 65536 in
set_option maxHeartbeats 40000000 in
theorem g126_0 {l : Launch} {Z : State} {a0 : Array Value} (hw : ∀ d ∈ tables_1, d.before a0 Z = true) {w : Wk} {n0 : Nat} {h0 : Heap} {Y : State → Outcome → Prop} (p0 p1 p2 p3 : Int32) (q4 : Int64) (kx G1 : Int32) (G3 : Value) (kd cs u8 iso : Addr) (s N : Nat) (C : Cx w Z "com/example/longhaul/longhaul/FieldFormatReadPinLaw" code 24 (some .boolean) "law" room_1 n0 (fun v _ => v = some (.int 1)) Y) (CW : LvW w room_1 n0 (fun v _ => v = some (.int 1)) Y) (Fd : Fld Z Z.heap kd "com/example/longhaul/longhaul/Iso8583AsciiCodec$LengthKind" "digits" "I" (.int 0)) (O2 : Sta Z Z.heap "java/lang/String" "COMPACT_STRINGS" "Z" (.int G1)) (P5 : ¬ G1 = 0) (Ou : Sta Z Z.heap "sun/nio/cs/UTF_8" "INSTANCE" "Lsun/nio/cs/UTF_8;" (.ref u8)) (Oi : Sta Z Z.heap "sun/nio/cs/ISO_8859_1" "INSTANCE" "Lsun/nio/cs/ISO_8859_1;" (.ref iso)) (Oa : Sta Z Z.heap "sun/nio/cs/US_ASCII" "INSTANCE" "Lsun/nio/cs/US_ASCII;" (.ref cs)) (ne_cs_u8 : cs ≠ u8) (ne_cs_iso : cs ≠ iso) (Ecs : Exa Z Z.heap cs "sun/nio/cs/US_ASCII") (O4 : Sta Z Z.heap "jdk/internal/util/Preconditions" "SIOOBE_FORMATTER" "Ljava/util/function/BiFunction;" G3) (rG3 : G3.isRef = true) (Os : Sta Z Z.heap "java/nio/charset/StandardCharsets" "US_ASCII" "Ljava/nio/charset/Charset;" (.ref cs)) (hh : Jvm.Lit.constHeld Z "java/lang/String" 7) (hcw : Jvm.Lit.compactW.before a0 Z = true) (hI : w.s.vm.interned = Z.vm.interned) (hPN : s + N ≤ 128) (hN : N ≤ 128) (hkx : kx = 0) (X : Old Z n0 h0) :
    Go w l room_1 n0 Y h0 0 0 126 #[.val (.int p0), .val (.int p1), .val (.int p2), .val (.int p3), .val (.long q4), .second, .val (.int kx), .val (.ref kd), .val (.int (0 : Int32)), .val (.int (128 : Int32)), .val (.int (Int32.ofNat N)), .val (.int (Int32.ofNat (128 - N))), .unset, .unset, .unset, .unset, .unset, .unset, .unset, .unset, .unset, .unset, .unset, .unset] [(.int (Int32.ofNat s))] := by
  refine g_istore C at_126 (pc' := 128) rfl (Ls' := #[.val (.int p0), .val (.int p1), .val (.int p2), .val (.int p3), .val (.long q4), .second, .val (.int kx), .val (.ref kd), .val (.int (0 : Int32)), .val (.int (128 : Int32)), .val (.int (Int32.ofNat N)), .val (.int (Int32.ofNat (128 - N))), .val (.int (Int32.ofNat s)), .unset, .unset, .unset, .unset, .unset, .unset, .unset, .unset, .unset, .unset, .unset]) rfl ?_
  refine g_iload C at_128 (pc' := 130) rfl rfl ?_
  refine g_iload C at_130 (pc' := 132) rfl rfl ?_
  refine g_iadd C at_132 (pc' := 133) rfl ?_
  rw [Int32.add_zero]
  show Go w l _ n0 _ h0 0 0 133 #[.val (.int p0), .val (.int p1), .val (.int p2), .val (.int p3), .val (.long q4), .second, .val (.int kx), .val (.ref kd), .val (.int (0 : Int32)), .val (.int (128 : Int32)), .val (.int (Int32.ofNat N)), .val (.int (Int32.ofNat (128 - N))), .val (.int (Int32.ofNat s)), .unset, .unset, .unset, .unset, .unset, .unset, .unset, .unset, .unset, .unset, .unset] [(.int (Int32.ofNat s))]
  refine g_istore C at_133 (pc' := 135) rfl (Ls' := #[.val (.int p0), .val (.int p1), .val (.int p2), .val (.int p3), .val (.long q4), .second, .val (.int kx), .val (.ref kd), .val (.int (0 : Int32)), .val (.int (128 : Int32)), .val (.int (Int32.ofNat N)), .val (.int (Int32.ofNat (128 - N))), .val (.int (Int32.ofNat s)), .val (.int (Int32.ofNat s)), .unset, .unset, .unset, .unset, .unset, .unset, .unset, .unset, .unset, .unset]) rfl ?_
  refine g_iloadN C at_135 (pc' := 136) rfl rfl ?_
  refine g_iconst C (z := (1 : Int32)) at_136 (pc' := 137) rfl rfl ?_
  refine g_iand C at_137 (pc' := 138) rfl ?_
  refine g_if_eq C at_138 (by decide) (pc' := 149) (by decide) (pcN := 141) rfl (fun q138 => ?_) (fun q138 => ?_)
  · refine g_iloadN C at_149 (pc' := 150) rfl rfl ?_
    refine g_iconst C (z := (2 : Int32)) at_150 (pc' := 151) rfl rfl ?_
    refine g_iushr C at_151 (pc' := 152) rfl ?_
    refine g_istore C at_152 (pc' := 154) rfl (Ls' := #[.val (.int p0), .val (.int p1), .val (.int p2), .val (.int p3), .val (.long q4), .second, .val (.int kx), .val (.ref kd), .val (.int (0 : Int32)), .val (.int (128 : Int32)), .val (.int (Int32.ofNat N)), .val (.int (Int32.ofNat (128 - N))), .val (.int (Int32.ofNat s)), .val (.int (Int32.ofNat s)), .val (.int ((p2.toUInt32 >>> ((2 : Int32) &&& 31).toUInt32).toInt32)), .unset, .unset, .unset, .unset, .unset, .unset, .unset, .unset, .unset]) rfl ?_
    refine g_iload C at_154 (pc' := 156) rfl rfl ?_
    refine g_if_ne C at_156 (by decide) (pc' := 164) (by decide) (pcN := 159) rfl (fun q => absurd hkx q) (fun _ => ?_)
    refine g_iload C at_159 (pc' := 161) rfl rfl ?_
    refine g_goto C at_161 (by decide) (pc' := 169) (by decide) ?_
    refine g_istore C at_169 (pc' := 171) rfl (Ls' := #[.val (.int p0), .val (.int p1), .val (.int p2), .val (.int p3), .val (.long q4), .second, .val (.int kx), .val (.ref kd), .val (.int (0 : Int32)), .val (.int (128 : Int32)), .val (.int (Int32.ofNat N)), .val (.int (Int32.ofNat (128 - N))), .val (.int (Int32.ofNat s)), .val (.int (Int32.ofNat s)), .val (.int ((p2.toUInt32 >>> ((2 : Int32) &&& 31).toUInt32).toInt32)), .val (.int (Int32.ofNat N)), .unset, .unset, .unset, .unset, .unset, .unset, .unset, .unset]) rfl ?_
    exact g171_0 (C := C) hw p0 p1 p2 p3 q4 kx G1 ((p2.toUInt32 >>> ((2 : Int32) &&& 31).toUInt32).toInt32) 0 G3 kd cs u8 iso s N CW Fd O2 P5 Ou Oi Oa ne_cs_u8 ne_cs_iso Ecs O4 rG3 Os hh hcw hI hPN hN X
  · refine g_iloadN C at_141 (pc' := 142) rfl rfl ?_
    refine g_iconst C (z := (1 : Int32)) at_142 (pc' := 143) rfl rfl ?_
    refine g_iushr C at_143 (pc' := 144) rfl ?_
    refine g_iconst C (z := (3 : Int32)) at_144 (pc' := 145) rfl rfl ?_
    refine g_iand C at_145 (pc' := 146) rfl ?_
    refine g_goto C at_146 (by decide) (pc' := 152) (by decide) ?_
    refine g_istore C at_152 (pc' := 154) rfl (Ls' := #[.val (.int p0), .val (.int p1), .val (.int p2), .val (.int p3), .val (.long q4), .second, .val (.int kx), .val (.ref kd), .val (.int (0 : Int32)), .val (.int (128 : Int32)), .val (.int (Int32.ofNat N)), .val (.int (Int32.ofNat (128 - N))), .val (.int (Int32.ofNat s)), .val (.int (Int32.ofNat s)), .val (.int (((p2.toUInt32 >>> ((1 : Int32) &&& 31).toUInt32).toInt32) &&& (3 : Int32))), .unset, .unset, .unset, .unset, .unset, .unset, .unset, .unset, .unset]) rfl ?_
    refine g_iload C at_154 (pc' := 156) rfl rfl ?_
    refine g_if_ne C at_156 (by decide) (pc' := 164) (by decide) (pcN := 159) rfl (fun q => absurd hkx q) (fun _ => ?_)
    refine g_iload C at_159 (pc' := 161) rfl rfl ?_
    refine g_goto C at_161 (by decide) (pc' := 169) (by decide) ?_
    refine g_istore C at_169 (pc' := 171) rfl (Ls' := #[.val (.int p0), .val (.int p1), .val (.int p2), .val (.int p3), .val (.long q4), .second, .val (.int kx), .val (.ref kd), .val (.int (0 : Int32)), .val (.int (128 : Int32)), .val (.int (Int32.ofNat N)), .val (.int (Int32.ofNat (128 - N))), .val (.int (Int32.ofNat s)), .val (.int (Int32.ofNat s)), .val (.int (((p2.toUInt32 >>> ((1 : Int32) &&& 31).toUInt32).toInt32) &&& (3 : Int32))), .val (.int (Int32.ofNat N)), .unset, .unset, .unset, .unset, .unset, .unset, .unset, .unset]) rfl ?_
    exact g171_0 (C := C) hw p0 p1 p2 p3 q4 kx G1 (((p2.toUInt32 >>> ((1 : Int32) &&& 31).toUInt32).toInt32) &&& (3 : Int32)) 0 G3 kd cs u8 iso s N CW Fd O2 P5 Ou Oi Oa ne_cs_u8 ne_cs_iso Ecs O4 rG3 Os hh hcw hI hPN hN X
set_option maxRecDepth 65536 in
set_option maxHeartbeats 40000000 in
theorem g310_2z {l : Launch} {Z : State} {a0 : Array Value} (hw : ∀ d ∈ tables_1, d.before a0 Z = true) {w : Wk} {n0 : Nat} {h0 : Heap} {Y : State → Outcome → Prop} (p0 p1 p2 p3 : Int32) (q4 : Int64) (kx G1 sl M : Int32) (G3 : Value) (kd cs u8 iso bt : Addr) (s : Nat) (F : Nat → Int32) (C : Cx w Z "com/example/longhaul/longhaul/FieldFormatReadPinLaw" code 24 (some .boolean) "law" room_1 n0 (fun v _ => v = some (.int 1)) Y) (CW : LvW w room_1 n0 (fun v _ => v = some (.int 1)) Y) (Fd : Fld Z Z.heap kd "com/example/longhaul/longhaul/Iso8583AsciiCodec$LengthKind" "digits" "I" (.int 2)) (O2 : Sta Z Z.heap "java/lang/String" "COMPACT_STRINGS" "Z" (.int G1)) (P5 : ¬ G1 = 0) (Ou : Sta Z Z.heap "sun/nio/cs/UTF_8" "INSTANCE" "Lsun/nio/cs/UTF_8;" (.ref u8)) (Oi : Sta Z Z.heap "sun/nio/cs/ISO_8859_1" "INSTANCE" "Lsun/nio/cs/ISO_8859_1;" (.ref iso)) (Oa : Sta Z Z.heap "sun/nio/cs/US_ASCII" "INSTANCE" "Lsun/nio/cs/US_ASCII;" (.ref cs)) (ne_cs_u8 : cs ≠ u8) (ne_cs_iso : cs ≠ iso) (Ecs : Exa Z Z.heap cs "sun/nio/cs/US_ASCII") (O4 : Sta Z Z.heap "jdk/internal/util/Preconditions" "SIOOBE_FORMATTER" "Ljava/util/function/BiFunction;" G3) (rG3 : G3.isRef = true) (Os : Sta Z Z.heap "java/nio/charset/StandardCharsets" "US_ASCII" "Ljava/nio/charset/Charset;" (.ref cs)) (hh : Jvm.Lit.constHeld Z "java/lang/String" 7) (hcw : Jvm.Lit.compactW.before a0 Z = true) (hI : w.s.vm.interned = Z.vm.interned) (hPN : (s + 2) + 0 ≤ 128) (hM : ¬ M < Int32.ofNat 0) (X : Old Z n0 h0) (A : Arf Z h0 bt "[B" .byte (128 : Int32) (fun j => .int (F j))) (gb : n0 ≤ bt) (hF : own_ok F) (hg0 : F s = own_dg (Int32.ofNat 0 / 10)) (hg1 : F (s + 1) = own_dg (Int32.ofNat 0 % 10)) :
    Go w l room_1 n0 Y h0 1 128 310 #[.val (.int p0), .val (.int p1), .val (.int p2), .val (.int p3), .val (.long q4), .second, .val (.int kx), .val (.ref kd), .val (.int (2 : Int32)), .val (.int (99 : Int32)), .val (.int (Int32.ofNat 0)), .val (.int (Int32.ofNat (126 - 0))), .val (.int (Int32.ofNat s)), .val (.int (Int32.ofNat (s + 2))), .val (.int sl), .val (.int M), .val (.ref bt), .unset, .unset, .unset, .unset, .unset, .unset, .unset] [] := by
  refine g_iconst C (z := (0 : Int32)) at_310 (pc' := 311) rfl rfl ?_
  refine g_istore C at_311 (pc' := 313) rfl (Ls' := #[.val (.int p0), .val (.int p1), .val (.int p2), .val (.int p3), .val (.long q4), .second, .val (.int kx), .val (.ref kd), .val (.int (2 : Int32)), .val (.int (99 : Int32)), .val (.int (Int32.ofNat 0)), .val (.int (Int32.ofNat (126 - 0))), .val (.int (Int32.ofNat s)), .val (.int (Int32.ofNat (s + 2))), .val (.int sl), .val (.int M), .val (.ref bt), .val (.int (0 : Int32)), .unset, .unset, .unset, .unset, .unset, .unset]) rfl ?_
  refine g_iload C at_313 (pc' := 315) rfl rfl ?_
  refine g_if_le C at_315 (by decide) (pc' := 374) (by decide) (pcN := 318) rfl (fun _ => ?_) (fun q => absurd q (by decide))
  exact f374_2z (C := C) hw p0 p1 p2 p3 q4 kx G1 sl M G3 kd cs u8 iso bt s 0 F CW Fd O2 P5 Ou Oi Oa ne_cs_u8 ne_cs_iso Ecs O4 rG3 Os hh hcw hI hPN hM X A gb hF hg0 hg1
set_option maxRecDepth 65536 in
set_option maxHeartbeats 40000000 in
theorem g289_2 {l : Launch} {Z : State} {a0 : Array Value} (hw : ∀ d ∈ tables_1, d.before a0 Z = true) {w : Wk} {n0 : Nat} {h0 : Heap} {Y : State → Outcome → Prop} (p0 p1 p2 p3 : Int32) (q4 : Int64) (kx G1 sl M : Int32) (G3 : Value) (kd cs u8 iso bt : Addr) (s N : Nat) (F : Nat → Int32) (C : Cx w Z "com/example/longhaul/longhaul/FieldFormatReadPinLaw" code 24 (some .boolean) "law" room_1 n0 (fun v _ => v = some (.int 1)) Y) (CW : LvW w room_1 n0 (fun v _ => v = some (.int 1)) Y) (Fd : Fld Z Z.heap kd "com/example/longhaul/longhaul/Iso8583AsciiCodec$LengthKind" "digits" "I" (.int 2)) (O2 : Sta Z Z.heap "java/lang/String" "COMPACT_STRINGS" "Z" (.int G1)) (P5 : ¬ G1 = 0) (Ou : Sta Z Z.heap "sun/nio/cs/UTF_8" "INSTANCE" "Lsun/nio/cs/UTF_8;" (.ref u8)) (Oi : Sta Z Z.heap "sun/nio/cs/ISO_8859_1" "INSTANCE" "Lsun/nio/cs/ISO_8859_1;" (.ref iso)) (Oa : Sta Z Z.heap "sun/nio/cs/US_ASCII" "INSTANCE" "Lsun/nio/cs/US_ASCII;" (.ref cs)) (ne_cs_u8 : cs ≠ u8) (ne_cs_iso : cs ≠ iso) (Ecs : Exa Z Z.heap cs "sun/nio/cs/US_ASCII") (O4 : Sta Z Z.heap "jdk/internal/util/Preconditions" "SIOOBE_FORMATTER" "Ljava/util/function/BiFunction;" G3) (rG3 : G3.isRef = true) (Os : Sta Z Z.heap "java/nio/charset/StandardCharsets" "US_ASCII" "Ljava/nio/charset/Charset;" (.ref cs)) (hh : Jvm.Lit.constHeld Z "java/lang/String" 7) (hcw : Jvm.Lit.compactW.before a0 Z = true) (hI : w.s.vm.interned = Z.vm.interned) (hPN : (s + 2) + N ≤ 128) (hN : N ≤ 99) (hM : ¬ M < Int32.ofNat N) (X : Old Z n0 h0) (A : Arf Z h0 bt "[B" .byte (128 : Int32) (fun j => .int (F j))) (gb : n0 ≤ bt) (hF : own_ok F) (hg0 : F s = own_dg (Int32.ofNat N / 10)) (hg1 : F (s + 1) = own_dg (Int32.ofNat N % 10)) :
    Go w l room_1 n0 Y h0 1 128 289 #[.val (.int p0), .val (.int p1), .val (.int p2), .val (.int p3), .val (.long q4), .second, .val (.int kx), .val (.ref kd), .val (.int (2 : Int32)), .val (.int (99 : Int32)), .val (.int (Int32.ofNat N)), .val (.int (Int32.ofNat (126 - N))), .val (.int (Int32.ofNat s)), .val (.int (Int32.ofNat (s + 2))), .val (.int sl), .val (.int M), .val (.ref bt), .unset, .unset, .unset, .unset, .unset, .unset, .unset] [] := by
  refine g_iload C at_289 (pc' := 291) rfl rfl ?_
  refine g_if_le C at_291 (by decide) (pc' := 310) (by decide) (pcN := 294) rfl (fun q291 => ?_) (fun q291 => ?_)
  · exact (by
          obtain rfl : N = 0 := own_nz0 q291 (by omega)
          exact g310_2z (C := C) hw p0 p1 p2 p3 q4 kx G1 sl M G3 kd cs u8 iso bt s F CW Fd O2 P5 Ou Oi Oa ne_cs_u8 ne_cs_iso Ecs O4 rG3 Os hh hcw hI hPN hM X A gb hF hg0 hg1)
  · have h1 : 1 ≤ N := own_nz1 q291 (by omega)
    refine g_lload C at_294 (pc' := 296) rfl rfl ?_
    refine g_bipush C (z := (40 : Int32)) at_296 (pc' := 298) rfl rfl ?_
    refine g_lushr C at_298 (pc' := 299) rfl ?_
    refine g_ldc2J C (hw _ (List.mem_of_getElem? (i := 5) rfl)) at_299 (pc' := 302) rfl ?_
    refine g_land C at_302 (pc' := 303) rfl ?_
    refine g_l2i C at_303 (pc' := 304) rfl ?_
    refine g_iload C at_304 (pc' := 306) rfl rfl ?_
    refine g_irem C at_306 (pc' := 307) rfl (own_n0 h1 (by omega)) ?_
    refine g_goto C at_307 (by decide) (pc' := 311) (by decide) ?_
    obtain ⟨m, hm, em⟩ := own_m7 ((q4.toUInt64 >>> ((40 : Int32) &&& 0x3f).toInt64.toUInt64).toInt64) h1 (by omega)
    rw [em]
    show Go w l _ n0 _ h0 1 128 311 #[.val (.int p0), .val (.int p1), .val (.int p2), .val (.int p3), .val (.long q4), .second, .val (.int kx), .val (.ref kd), .val (.int (2 : Int32)), .val (.int (99 : Int32)), .val (.int (Int32.ofNat N)), .val (.int (Int32.ofNat (126 - N))), .val (.int (Int32.ofNat s)), .val (.int (Int32.ofNat (s + 2))), .val (.int sl), .val (.int M), .val (.ref bt), .unset, .unset, .unset, .unset, .unset, .unset, .unset] [(.int (Int32.ofNat m))]
    refine g_istore C at_311 (pc' := 313) rfl (Ls' := #[.val (.int p0), .val (.int p1), .val (.int p2), .val (.int p3), .val (.long q4), .second, .val (.int kx), .val (.ref kd), .val (.int (2 : Int32)), .val (.int (99 : Int32)), .val (.int (Int32.ofNat N)), .val (.int (Int32.ofNat (126 - N))), .val (.int (Int32.ofNat s)), .val (.int (Int32.ofNat (s + 2))), .val (.int sl), .val (.int M), .val (.ref bt), .val (.int (Int32.ofNat m)), .unset, .unset, .unset, .unset, .unset, .unset]) rfl ?_
    refine g_iload C at_313 (pc' := 315) rfl rfl ?_
    refine g_if_le C at_315 (by decide) (pc' := 374) (by decide) (pcN := 318) rfl (fun q => absurd q291 q) (fun _ => ?_)
    refine g_aload C at_318 (pc' := 320) rfl rfl rfl ?_
    refine g_iload C at_320 (pc' := 322) rfl rfl ?_
    refine g_lload C at_322 (pc' := 324) rfl rfl ?_
    refine g_bipush C (z := (8 : Int32)) at_324 (pc' := 326) rfl rfl ?_
    refine g_lushr C at_326 (pc' := 327) rfl ?_
    refine g_ldc2J C (hw _ (List.mem_of_getElem? (i := 5) rfl)) at_327 (pc' := 330) rfl ?_
    refine g_land C at_330 (pc' := 331) rfl ?_
    refine g_l2i C at_331 (pc' := 332) rfl ?_
    refine g_i2b C at_332 (pc' := 333) rfl ?_
    refine g_bastore C A (n32_nn (by omega)) (n32_lt (n := 128) (by omega) (by omega)) at_333 (pc' := 334) rfl gb (fun h123 W124 A' => ?_)
    have X := X.wr W124 gb
    have A : Arf Z h123 bt "[B" .byte (128 : Int32) (upd (fun j => .int (F j)) (Int32.ofNat (s + 2)).toNatClampNeg (.int (nar .byte (((((q4.toUInt64 >>> ((8 : Int32) &&& 0x3f).toInt64.toUInt64).toInt64) &&& (127 : Int64)).toInt32).toInt8.toInt32)))) := A'
    have A : Arf Z h123 bt "[B" .byte (128 : Int32) (fun j => .int ((own_w F (s + 2) (nar .byte (((((q4.toUInt64 >>> ((8 : Int32) &&& 0x3f).toInt64.toUInt64).toInt64) &&& (127 : Int64)).toInt32).toInt8.toInt32))) j)) := A.congr fun j _ => own_wr (by omega) (nar .byte (((((q4.toUInt64 >>> ((8 : Int32) &&& 0x3f).toInt64.toUInt64).toInt64) &&& (127 : Int64)).toInt32).toInt8.toInt32)) j
    refine g_aload C at_334 (pc' := 336) rfl rfl rfl ?_
    refine g_iload C at_336 (pc' := 338) rfl rfl ?_
    refine g_iload C at_338 (pc' := 340) rfl rfl ?_
    refine g_iadd C at_340 (pc' := 341) rfl ?_
    rw [← Int32.ofNat_add]
    show Go w l _ n0 _ h123 1 128 341 #[.val (.int p0), .val (.int p1), .val (.int p2), .val (.int p3), .val (.long q4), .second, .val (.int kx), .val (.ref kd), .val (.int (2 : Int32)), .val (.int (99 : Int32)), .val (.int (Int32.ofNat N)), .val (.int (Int32.ofNat (126 - N))), .val (.int (Int32.ofNat s)), .val (.int (Int32.ofNat (s + 2))), .val (.int sl), .val (.int M), .val (.ref bt), .val (.int (Int32.ofNat m)), .unset, .unset, .unset, .unset, .unset, .unset] [(.int (Int32.ofNat ((s + 2) + N))), (.ref bt)]
    refine g_iconst C (z := (1 : Int32)) at_341 (pc' := 342) rfl rfl ?_
    refine g_isub C at_342 (pc' := 343) rfl ?_
    rw [own_pred (by omega) (by omega)]
    show Go w l _ n0 _ h123 1 128 343 #[.val (.int p0), .val (.int p1), .val (.int p2), .val (.int p3), .val (.long q4), .second, .val (.int kx), .val (.ref kd), .val (.int (2 : Int32)), .val (.int (99 : Int32)), .val (.int (Int32.ofNat N)), .val (.int (Int32.ofNat (126 - N))), .val (.int (Int32.ofNat s)), .val (.int (Int32.ofNat (s + 2))), .val (.int sl), .val (.int M), .val (.ref bt), .val (.int (Int32.ofNat m)), .unset, .unset, .unset, .unset, .unset, .unset] [(.int (Int32.ofNat ((s + 2) + N - 1))), (.ref bt)]
    refine g_lload C at_343 (pc' := 345) rfl rfl ?_
    refine g_bipush C (z := (16 : Int32)) at_345 (pc' := 347) rfl rfl ?_
    refine g_lushr C at_347 (pc' := 348) rfl ?_
    refine g_ldc2J C (hw _ (List.mem_of_getElem? (i := 5) rfl)) at_348 (pc' := 351) rfl ?_
    refine g_land C at_351 (pc' := 352) rfl ?_
    refine g_l2i C at_352 (pc' := 353) rfl ?_
    refine g_i2b C at_353 (pc' := 354) rfl ?_
    refine g_bastore C A (n32_nn (by omega)) (n32_lt (n := 128) (by omega) (by omega)) at_354 (pc' := 355) rfl gb (fun h125 W126 A' => ?_)
    have X := X.wr W126 gb
    have A : Arf Z h125 bt "[B" .byte (128 : Int32) (upd (fun j => .int ((own_w F (s + 2) (nar .byte (((((q4.toUInt64 >>> ((8 : Int32) &&& 0x3f).toInt64.toUInt64).toInt64) &&& (127 : Int64)).toInt32).toInt8.toInt32))) j)) (Int32.ofNat ((s + 2) + N - 1)).toNatClampNeg (.int (nar .byte (((((q4.toUInt64 >>> ((16 : Int32) &&& 0x3f).toInt64.toUInt64).toInt64) &&& (127 : Int64)).toInt32).toInt8.toInt32)))) := A'
    have A : Arf Z h125 bt "[B" .byte (128 : Int32) (fun j => .int ((own_w (own_w F (s + 2) (nar .byte (((((q4.toUInt64 >>> ((8 : Int32) &&& 0x3f).toInt64.toUInt64).toInt64) &&& (127 : Int64)).toInt32).toInt8.toInt32))) ((s + 2) + N - 1) (nar .byte (((((q4.toUInt64 >>> ((16 : Int32) &&& 0x3f).toInt64.toUInt64).toInt64) &&& (127 : Int64)).toInt32).toInt8.toInt32))) j)) := A.congr fun j _ => own_wr (by omega) (nar .byte (((((q4.toUInt64 >>> ((16 : Int32) &&& 0x3f).toInt64.toUInt64).toInt64) &&& (127 : Int64)).toInt32).toInt8.toInt32)) j
    refine g_aload C at_355 (pc' := 357) rfl rfl rfl ?_
    refine g_iload C at_357 (pc' := 359) rfl rfl ?_
    refine g_iload C at_359 (pc' := 361) rfl rfl ?_
    refine g_iadd C at_361 (pc' := 362) rfl ?_
    rw [← Int32.ofNat_add]
    show Go w l _ n0 _ h125 1 128 362 #[.val (.int p0), .val (.int p1), .val (.int p2), .val (.int p3), .val (.long q4), .second, .val (.int kx), .val (.ref kd), .val (.int (2 : Int32)), .val (.int (99 : Int32)), .val (.int (Int32.ofNat N)), .val (.int (Int32.ofNat (126 - N))), .val (.int (Int32.ofNat s)), .val (.int (Int32.ofNat (s + 2))), .val (.int sl), .val (.int M), .val (.ref bt), .val (.int (Int32.ofNat m)), .unset, .unset, .unset, .unset, .unset, .unset] [(.int (Int32.ofNat ((s + 2) + m))), (.ref bt)]
    refine g_lload C at_362 (pc' := 364) rfl rfl ?_
    refine g_bipush C (z := (24 : Int32)) at_364 (pc' := 366) rfl rfl ?_
    refine g_lushr C at_366 (pc' := 367) rfl ?_
    refine g_ldc2J C (hw _ (List.mem_of_getElem? (i := 5) rfl)) at_367 (pc' := 370) rfl ?_
    refine g_land C at_370 (pc' := 371) rfl ?_
    refine g_l2i C at_371 (pc' := 372) rfl ?_
    refine g_i2b C at_372 (pc' := 373) rfl ?_
    refine g_bastore C A (n32_nn (by omega)) (n32_lt (n := 128) (by omega) (by omega)) at_373 (pc' := 374) rfl gb (fun h127 W128 A' => ?_)
    have X := X.wr W128 gb
    have A : Arf Z h127 bt "[B" .byte (128 : Int32) (upd (fun j => .int ((own_w (own_w F (s + 2) (nar .byte (((((q4.toUInt64 >>> ((8 : Int32) &&& 0x3f).toInt64.toUInt64).toInt64) &&& (127 : Int64)).toInt32).toInt8.toInt32))) ((s + 2) + N - 1) (nar .byte (((((q4.toUInt64 >>> ((16 : Int32) &&& 0x3f).toInt64.toUInt64).toInt64) &&& (127 : Int64)).toInt32).toInt8.toInt32))) j)) (Int32.ofNat ((s + 2) + m)).toNatClampNeg (.int (nar .byte (((((q4.toUInt64 >>> ((24 : Int32) &&& 0x3f).toInt64.toUInt64).toInt64) &&& (127 : Int64)).toInt32).toInt8.toInt32)))) := A'
    have A : Arf Z h127 bt "[B" .byte (128 : Int32) (fun j => .int ((own_w (own_w (own_w F (s + 2) (nar .byte (((((q4.toUInt64 >>> ((8 : Int32) &&& 0x3f).toInt64.toUInt64).toInt64) &&& (127 : Int64)).toInt32).toInt8.toInt32))) ((s + 2) + N - 1) (nar .byte (((((q4.toUInt64 >>> ((16 : Int32) &&& 0x3f).toInt64.toUInt64).toInt64) &&& (127 : Int64)).toInt32).toInt8.toInt32))) ((s + 2) + m) (nar .byte (((((q4.toUInt64 >>> ((24 : Int32) &&& 0x3f).toInt64.toUInt64).toInt64) &&& (127 : Int64)).toInt32).toInt8.toInt32))) j)) := A.congr fun j _ => own_wr (by omega) (nar .byte (((((q4.toUInt64 >>> ((24 : Int32) &&& 0x3f).toInt64.toUInt64).toInt64) &&& (127 : Int64)).toInt32).toInt8.toInt32)) j
    exact f374_2 (C := C) hw p0 p1 p2 p3 q4 kx G1 sl M G3 kd cs u8 iso bt s N m (own_w (own_w (own_w F (s + 2) (nar .byte (((((q4.toUInt64 >>> ((8 : Int32) &&& 0x3f).toInt64.toUInt64).toInt64) &&& (127 : Int64)).toInt32).toInt8.toInt32))) ((s + 2) + N - 1) (nar .byte (((((q4.toUInt64 >>> ((16 : Int32) &&& 0x3f).toInt64.toUInt64).toInt64) &&& (127 : Int64)).toInt32).toInt8.toInt32))) ((s + 2) + m) (nar .byte (((((q4.toUInt64 >>> ((24 : Int32) &&& 0x3f).toInt64.toUInt64).toInt64) &&& (127 : Int64)).toInt32).toInt8.toInt32))) CW Fd O2 P5 Ou Oi Oa ne_cs_u8 ne_cs_iso Ecs O4 rG3 Os hh hcw hI hPN h1 hm hN hM X A gb (own_okw (own_okw (own_okw hF (own_v7 _)) (own_v7 _)) (own_v7 _)) ((own_wne (by omega)).trans ((own_wne (by omega)).trans ((own_wne (by omega)).trans hg0))) ((own_wne (by omega)).trans ((own_wne (by omega)).trans ((own_wne (by omega)).trans hg1)))
set_option maxRecDepth 65536 in
set_option maxHeartbeats 40000000 in
theorem g198_2 {l : Launch} {Z : State} {a0 : Array Value} (hw : ∀ d ∈ tables_1, d.before a0 Z = true) {w : Wk} {n0 : Nat} {h0 : Heap} {Y : State → Outcome → Prop} (p0 p1 p2 p3 : Int32) (q4 : Int64) (kx G1 sl M : Int32) (G3 : Value) (kd cs u8 iso bt : Addr) (s N : Nat) (F : Nat → Int32) (C : Cx w Z "com/example/longhaul/longhaul/FieldFormatReadPinLaw" code 24 (some .boolean) "law" room_1 n0 (fun v _ => v = some (.int 1)) Y) (CW : LvW w room_1 n0 (fun v _ => v = some (.int 1)) Y) (Fd : Fld Z Z.heap kd "com/example/longhaul/longhaul/Iso8583AsciiCodec$LengthKind" "digits" "I" (.int 2)) (O2 : Sta Z Z.heap "java/lang/String" "COMPACT_STRINGS" "Z" (.int G1)) (P5 : ¬ G1 = 0) (Ou : Sta Z Z.heap "sun/nio/cs/UTF_8" "INSTANCE" "Lsun/nio/cs/UTF_8;" (.ref u8)) (Oi : Sta Z Z.heap "sun/nio/cs/ISO_8859_1" "INSTANCE" "Lsun/nio/cs/ISO_8859_1;" (.ref iso)) (Oa : Sta Z Z.heap "sun/nio/cs/US_ASCII" "INSTANCE" "Lsun/nio/cs/US_ASCII;" (.ref cs)) (ne_cs_u8 : cs ≠ u8) (ne_cs_iso : cs ≠ iso) (Ecs : Exa Z Z.heap cs "sun/nio/cs/US_ASCII") (O4 : Sta Z Z.heap "jdk/internal/util/Preconditions" "SIOOBE_FORMATTER" "Ljava/util/function/BiFunction;" G3) (rG3 : G3.isRef = true) (Os : Sta Z Z.heap "java/nio/charset/StandardCharsets" "US_ASCII" "Ljava/nio/charset/Charset;" (.ref cs)) (hh : Jvm.Lit.constHeld Z "java/lang/String" 7) (hcw : Jvm.Lit.compactW.before a0 Z = true) (hI : w.s.vm.interned = Z.vm.interned) (hPN : (s + 2) + N ≤ 128) (hN : N ≤ 99) (hM : ¬ M < Int32.ofNat N) (X : Old Z n0 h0) (A : Arf Z h0 bt "[B" .byte (128 : Int32) (fun j => .int (F j))) (gb : n0 ≤ bt) (hF : own_ok F) :
    Go w l room_1 n0 Y h0 1 128 198 #[.val (.int p0), .val (.int p1), .val (.int p2), .val (.int p3), .val (.long q4), .second, .val (.int kx), .val (.ref kd), .val (.int (2 : Int32)), .val (.int (99 : Int32)), .val (.int (Int32.ofNat N)), .val (.int (Int32.ofNat (126 - N))), .val (.int (Int32.ofNat s)), .val (.int (Int32.ofNat (s + 2))), .val (.int sl), .val (.int M), .val (.ref bt), .unset, .unset, .unset, .unset, .unset, .unset, .unset] [] := by
  refine g_iload C at_198 (pc' := 200) rfl rfl ?_
  refine g_iconst C (z := (2 : Int32)) at_200 (pc' := 201) rfl rfl ?_
  refine g_icmp_ne C at_201 (by decide) (pc' := 234) (by decide) (pcN := 204) rfl (fun q => absurd rfl q) (fun _ => ?_)
  refine g_aload C at_204 (pc' := 206) rfl rfl rfl ?_
  refine g_iload C at_206 (pc' := 208) rfl rfl ?_
  refine g_bipush C (z := (48 : Int32)) at_208 (pc' := 210) rfl rfl ?_
  refine g_iload C at_210 (pc' := 212) rfl rfl ?_
  refine g_bipush C (z := (10 : Int32)) at_212 (pc' := 214) rfl rfl ?_
  refine g_idiv C at_214 (pc' := 215) rfl (by decide) ?_
  refine g_iadd C at_215 (pc' := 216) rfl ?_
  refine g_i2b C at_216 (pc' := 217) rfl ?_
  refine g_bastore C A (n32_nn (by omega)) (n32_lt (n := 128) (by omega) (by omega)) at_217 (pc' := 218) rfl gb (fun h129 W130 A' => ?_)
  have X := X.wr W130 gb
  have A : Arf Z h129 bt "[B" .byte (128 : Int32) (upd (fun j => .int (F j)) (Int32.ofNat s).toNatClampNeg (.int (nar .byte (((48 : Int32) + ((Int32.ofNat N) / (10 : Int32))).toInt8.toInt32)))) := A'
  have A : Arf Z h129 bt "[B" .byte (128 : Int32) (fun j => .int ((own_w F s (own_dg (Int32.ofNat N / 10))) j)) := A.congr fun j _ => own_wr (by omega) (own_dg (Int32.ofNat N / 10)) j
  refine g_aload C at_218 (pc' := 220) rfl rfl rfl ?_
  refine g_iload C at_220 (pc' := 222) rfl rfl ?_
  refine g_iconst C (z := (1 : Int32)) at_222 (pc' := 223) rfl rfl ?_
  refine g_iadd C at_223 (pc' := 224) rfl ?_
  rw [n32_succ]
  show Go w l _ n0 _ h129 1 128 224 #[.val (.int p0), .val (.int p1), .val (.int p2), .val (.int p3), .val (.long q4), .second, .val (.int kx), .val (.ref kd), .val (.int (2 : Int32)), .val (.int (99 : Int32)), .val (.int (Int32.ofNat N)), .val (.int (Int32.ofNat (126 - N))), .val (.int (Int32.ofNat s)), .val (.int (Int32.ofNat (s + 2))), .val (.int sl), .val (.int M), .val (.ref bt), .unset, .unset, .unset, .unset, .unset, .unset, .unset] [(.int (Int32.ofNat (s + 1))), (.ref bt)]
  refine g_bipush C (z := (48 : Int32)) at_224 (pc' := 226) rfl rfl ?_
  refine g_iload C at_226 (pc' := 228) rfl rfl ?_
  refine g_bipush C (z := (10 : Int32)) at_228 (pc' := 230) rfl rfl ?_
  refine g_irem C at_230 (pc' := 231) rfl (by decide) ?_
  refine g_iadd C at_231 (pc' := 232) rfl ?_
  refine g_i2b C at_232 (pc' := 233) rfl ?_
  refine g_bastore C A (n32_nn (by omega)) (n32_lt (n := 128) (by omega) (by omega)) at_233 (pc' := 234) rfl gb (fun h131 W132 A' => ?_)
  have X := X.wr W132 gb
  have A : Arf Z h131 bt "[B" .byte (128 : Int32) (upd (fun j => .int ((own_w F s (own_dg (Int32.ofNat N / 10))) j)) (Int32.ofNat (s + 1)).toNatClampNeg (.int (nar .byte (((48 : Int32) + ((Int32.ofNat N) % (10 : Int32))).toInt8.toInt32)))) := A'
  have A : Arf Z h131 bt "[B" .byte (128 : Int32) (fun j => .int ((own_w (own_w F s (own_dg (Int32.ofNat N / 10))) (s + 1) (own_dg (Int32.ofNat N % 10))) j)) := A.congr fun j _ => own_wr (by omega) (own_dg (Int32.ofNat N % 10)) j
  refine g_iload C at_234 (pc' := 236) rfl rfl ?_
  refine g_iconst C (z := (3 : Int32)) at_236 (pc' := 237) rfl rfl ?_
  refine g_icmp_ne C at_237 (by decide) (pc' := 289) (by decide) (pcN := 240) rfl (fun _ => ?_) (fun q => absurd q (by decide))
  exact g289_2 (C := C) hw p0 p1 p2 p3 q4 kx G1 sl M G3 kd cs u8 iso bt s N (own_w (own_w F s (own_dg (Int32.ofNat N / 10))) (s + 1) (own_dg (Int32.ofNat N % 10))) CW Fd O2 P5 Ou Oi Oa ne_cs_u8 ne_cs_iso Ecs O4 rG3 Os hh hcw hI hPN hN hM X A gb (own_okw (own_okw hF (by rw [own_dgv (by rw [own_q10 (by omega)]; omega), own_q10 (by omega)]; omega)) (by rw [own_dgv (by rw [own_r10 (by omega)]; omega), own_r10 (by omega)]; omega)) ((own_wne (by omega)).trans (own_weq _ _ _)) (own_weq _ _ _)
set_option maxRecDepth 65536 in
set_option maxHeartbeats 40000000 in
theorem g171_2 {l : Launch} {Z : State} {a0 : Array Value} (hw : ∀ d ∈ tables_1, d.before a0 Z = true) {w : Wk} {n0 : Nat} {h0 : Heap} {Y : State → Outcome → Prop} (p0 p1 p2 p3 : Int32) (q4 : Int64) (kx G1 sl M : Int32) (G3 : Value) (kd cs u8 iso : Addr) (s N : Nat) (C : Cx w Z "com/example/longhaul/longhaul/FieldFormatReadPinLaw" code 24 (some .boolean) "law" room_1 n0 (fun v _ => v = some (.int 1)) Y) (CW : LvW w room_1 n0 (fun v _ => v = some (.int 1)) Y) (Fd : Fld Z Z.heap kd "com/example/longhaul/longhaul/Iso8583AsciiCodec$LengthKind" "digits" "I" (.int 2)) (O2 : Sta Z Z.heap "java/lang/String" "COMPACT_STRINGS" "Z" (.int G1)) (P5 : ¬ G1 = 0) (Ou : Sta Z Z.heap "sun/nio/cs/UTF_8" "INSTANCE" "Lsun/nio/cs/UTF_8;" (.ref u8)) (Oi : Sta Z Z.heap "sun/nio/cs/ISO_8859_1" "INSTANCE" "Lsun/nio/cs/ISO_8859_1;" (.ref iso)) (Oa : Sta Z Z.heap "sun/nio/cs/US_ASCII" "INSTANCE" "Lsun/nio/cs/US_ASCII;" (.ref cs)) (ne_cs_u8 : cs ≠ u8) (ne_cs_iso : cs ≠ iso) (Ecs : Exa Z Z.heap cs "sun/nio/cs/US_ASCII") (O4 : Sta Z Z.heap "jdk/internal/util/Preconditions" "SIOOBE_FORMATTER" "Ljava/util/function/BiFunction;" G3) (rG3 : G3.isRef = true) (Os : Sta Z Z.heap "java/nio/charset/StandardCharsets" "US_ASCII" "Ljava/nio/charset/Charset;" (.ref cs)) (hh : Jvm.Lit.constHeld Z "java/lang/String" 7) (hcw : Jvm.Lit.compactW.before a0 Z = true) (hI : w.s.vm.interned = Z.vm.interned) (hPN : (s + 2) + N ≤ 128) (hN : N ≤ 99) (hM : ¬ M < Int32.ofNat N) (X : Old Z n0 h0) :
    Go w l room_1 n0 Y h0 0 0 171 #[.val (.int p0), .val (.int p1), .val (.int p2), .val (.int p3), .val (.long q4), .second, .val (.int kx), .val (.ref kd), .val (.int (2 : Int32)), .val (.int (99 : Int32)), .val (.int (Int32.ofNat N)), .val (.int (Int32.ofNat (126 - N))), .val (.int (Int32.ofNat s)), .val (.int (Int32.ofNat (s + 2))), .val (.int sl), .val (.int M), .unset, .unset, .unset, .unset, .unset, .unset, .unset, .unset] [] := by
  refine g_sipush C (z := (128 : Int32)) at_171 (pc' := 174) rfl rfl ?_
  refine g_newarr C (ad := "[B") (cap := 128) (hw _ (List.mem_of_getElem? (i := 4) rfl)) at_174 (pc' := 176) rfl rfl (by decide) (by decide) (by decide) (k' := 1) (n' := 128) rfl rfl (by decide) (by decide) rfl ?_
  intro h133 b133 E133 fb133 gb133 A133
  have X := X.ext E133
  have A133 : Arf Z h133 b133 "[B" .byte (128 : Int32) (fun _ => (.int 0)) := A133
  refine g_astore C at_176 (pc' := 178) rfl rfl (Ls' := #[.val (.int p0), .val (.int p1), .val (.int p2), .val (.int p3), .val (.long q4), .second, .val (.int kx), .val (.ref kd), .val (.int (2 : Int32)), .val (.int (99 : Int32)), .val (.int (Int32.ofNat N)), .val (.int (Int32.ofNat (126 - N))), .val (.int (Int32.ofNat s)), .val (.int (Int32.ofNat (s + 2))), .val (.int sl), .val (.int M), .val (.ref b133), .unset, .unset, .unset, .unset, .unset, .unset, .unset]) rfl ?_
  have A133 : Arf Z h133 b133 "[B" .byte (128 : Int32) (fun j => .int ((fun _ => (0 : Int32)) j)) := A133
  refine g_iload C at_178 (pc' := 180) rfl rfl ?_
  refine g_if_le C at_180 (by decide) (pc' := 198) (by decide) (pcN := 183) rfl (fun q180 => ?_) (fun q180 => ?_)
  · exact g198_2 (C := C) hw p0 p1 p2 p3 q4 kx G1 sl M G3 kd cs u8 iso b133 s N (fun _ => (0 : Int32)) CW Fd O2 P5 Ou Oi Oa ne_cs_u8 ne_cs_iso Ecs O4 rG3 Os hh hcw hI hPN hN hM X A133 gb133 own_ok0
  · refine g_aload C at_183 (pc' := 185) rfl rfl rfl ?_
    refine g_iload C at_185 (pc' := 187) rfl rfl ?_
    refine g_iconst C (z := (1 : Int32)) at_187 (pc' := 188) rfl rfl ?_
    refine g_isub C at_188 (pc' := 189) rfl ?_
    rw [own_pred (own_nz1 q180 (by omega)) (by omega)]
    show Go w l _ n0 _ h133 1 128 189 #[.val (.int p0), .val (.int p1), .val (.int p2), .val (.int p3), .val (.long q4), .second, .val (.int kx), .val (.ref kd), .val (.int (2 : Int32)), .val (.int (99 : Int32)), .val (.int (Int32.ofNat N)), .val (.int (Int32.ofNat (126 - N))), .val (.int (Int32.ofNat s)), .val (.int (Int32.ofNat (s + 2))), .val (.int sl), .val (.int M), .val (.ref b133), .unset, .unset, .unset, .unset, .unset, .unset, .unset] [(.int (Int32.ofNat (s - 1))), (.ref b133)]
    refine g_lload C at_189 (pc' := 191) rfl rfl ?_
    refine g_ldc2J C (hw _ (List.mem_of_getElem? (i := 5) rfl)) at_191 (pc' := 194) rfl ?_
    refine g_land C at_194 (pc' := 195) rfl ?_
    refine g_l2i C at_195 (pc' := 196) rfl ?_
    refine g_i2b C at_196 (pc' := 197) rfl ?_
    refine g_bastore C A133 (n32_nn (by omega)) (n32_lt (n := 128) (by omega) (by omega)) at_197 (pc' := 198) rfl gb133 (fun h134 W135 A133' => ?_)
    have X := X.wr W135 gb133
    have A133 : Arf Z h134 b133 "[B" .byte (128 : Int32) (upd (fun j => .int ((fun _ => (0 : Int32)) j)) (Int32.ofNat (s - 1)).toNatClampNeg (.int (nar .byte (((q4 &&& (127 : Int64)).toInt32).toInt8.toInt32)))) := A133'
    have A133 : Arf Z h134 b133 "[B" .byte (128 : Int32) (fun j => .int ((own_w (fun _ => (0 : Int32)) (s - 1) (nar .byte (((q4 &&& (127 : Int64)).toInt32).toInt8.toInt32))) j)) := A133.congr fun j _ => own_wr (by omega) (nar .byte (((q4 &&& (127 : Int64)).toInt32).toInt8.toInt32)) j
    exact g198_2 (C := C) hw p0 p1 p2 p3 q4 kx G1 sl M G3 kd cs u8 iso b133 s N (own_w (fun _ => (0 : Int32)) (s - 1) (nar .byte (((q4 &&& (127 : Int64)).toInt32).toInt8.toInt32))) CW Fd O2 P5 Ou Oi Oa ne_cs_u8 ne_cs_iso Ecs O4 rG3 Os hh hcw hI hPN hN hM X A133 gb133 (own_okw own_ok0 (own_v7 _))
set_option maxRecDepth 65536 in
set_option maxHeartbeats 40000000 in
theorem g126_2 {l : Launch} {Z : State} {a0 : Array Value} (hw : ∀ d ∈ tables_1, d.before a0 Z = true) {w : Wk} {n0 : Nat} {h0 : Heap} {Y : State → Outcome → Prop} (p0 p1 p2 p3 : Int32) (q4 : Int64) (kx G1 : Int32) (G3 : Value) (kd cs u8 iso : Addr) (s N : Nat) (C : Cx w Z "com/example/longhaul/longhaul/FieldFormatReadPinLaw" code 24 (some .boolean) "law" room_1 n0 (fun v _ => v = some (.int 1)) Y) (CW : LvW w room_1 n0 (fun v _ => v = some (.int 1)) Y) (Fd : Fld Z Z.heap kd "com/example/longhaul/longhaul/Iso8583AsciiCodec$LengthKind" "digits" "I" (.int 2)) (O2 : Sta Z Z.heap "java/lang/String" "COMPACT_STRINGS" "Z" (.int G1)) (P5 : ¬ G1 = 0) (Ou : Sta Z Z.heap "sun/nio/cs/UTF_8" "INSTANCE" "Lsun/nio/cs/UTF_8;" (.ref u8)) (Oi : Sta Z Z.heap "sun/nio/cs/ISO_8859_1" "INSTANCE" "Lsun/nio/cs/ISO_8859_1;" (.ref iso)) (Oa : Sta Z Z.heap "sun/nio/cs/US_ASCII" "INSTANCE" "Lsun/nio/cs/US_ASCII;" (.ref cs)) (ne_cs_u8 : cs ≠ u8) (ne_cs_iso : cs ≠ iso) (Ecs : Exa Z Z.heap cs "sun/nio/cs/US_ASCII") (O4 : Sta Z Z.heap "jdk/internal/util/Preconditions" "SIOOBE_FORMATTER" "Ljava/util/function/BiFunction;" G3) (rG3 : G3.isRef = true) (Os : Sta Z Z.heap "java/nio/charset/StandardCharsets" "US_ASCII" "Ljava/nio/charset/Charset;" (.ref cs)) (hh : Jvm.Lit.constHeld Z "java/lang/String" 7) (hcw : Jvm.Lit.compactW.before a0 Z = true) (hI : w.s.vm.interned = Z.vm.interned) (hPN : (s + 2) + N ≤ 128) (hN : N ≤ 99) (hkx : ¬ kx = 0) (X : Old Z n0 h0) :
    Go w l room_1 n0 Y h0 0 0 126 #[.val (.int p0), .val (.int p1), .val (.int p2), .val (.int p3), .val (.long q4), .second, .val (.int kx), .val (.ref kd), .val (.int (2 : Int32)), .val (.int (99 : Int32)), .val (.int (Int32.ofNat N)), .val (.int (Int32.ofNat (126 - N))), .unset, .unset, .unset, .unset, .unset, .unset, .unset, .unset, .unset, .unset, .unset, .unset] [(.int (Int32.ofNat s))] := by
  refine g_istore C at_126 (pc' := 128) rfl (Ls' := #[.val (.int p0), .val (.int p1), .val (.int p2), .val (.int p3), .val (.long q4), .second, .val (.int kx), .val (.ref kd), .val (.int (2 : Int32)), .val (.int (99 : Int32)), .val (.int (Int32.ofNat N)), .val (.int (Int32.ofNat (126 - N))), .val (.int (Int32.ofNat s)), .unset, .unset, .unset, .unset, .unset, .unset, .unset, .unset, .unset, .unset, .unset]) rfl ?_
  refine g_iload C at_128 (pc' := 130) rfl rfl ?_
  refine g_iload C at_130 (pc' := 132) rfl rfl ?_
  refine g_iadd C at_132 (pc' := 133) rfl ?_
  rw [own_ix (K := (2 : Int32)) (k := 2) rfl]
  show Go w l _ n0 _ h0 0 0 133 #[.val (.int p0), .val (.int p1), .val (.int p2), .val (.int p3), .val (.long q4), .second, .val (.int kx), .val (.ref kd), .val (.int (2 : Int32)), .val (.int (99 : Int32)), .val (.int (Int32.ofNat N)), .val (.int (Int32.ofNat (126 - N))), .val (.int (Int32.ofNat s)), .unset, .unset, .unset, .unset, .unset, .unset, .unset, .unset, .unset, .unset, .unset] [(.int (Int32.ofNat (s + 2)))]
  refine g_istore C at_133 (pc' := 135) rfl (Ls' := #[.val (.int p0), .val (.int p1), .val (.int p2), .val (.int p3), .val (.long q4), .second, .val (.int kx), .val (.ref kd), .val (.int (2 : Int32)), .val (.int (99 : Int32)), .val (.int (Int32.ofNat N)), .val (.int (Int32.ofNat (126 - N))), .val (.int (Int32.ofNat s)), .val (.int (Int32.ofNat (s + 2))), .unset, .unset, .unset, .unset, .unset, .unset, .unset, .unset, .unset, .unset]) rfl ?_
  refine g_iloadN C at_135 (pc' := 136) rfl rfl ?_
  refine g_iconst C (z := (1 : Int32)) at_136 (pc' := 137) rfl rfl ?_
  refine g_iand C at_137 (pc' := 138) rfl ?_
  refine g_if_eq C at_138 (by decide) (pc' := 149) (by decide) (pcN := 141) rfl (fun q138 => ?_) (fun q138 => ?_)
  · refine g_iloadN C at_149 (pc' := 150) rfl rfl ?_
    refine g_iconst C (z := (2 : Int32)) at_150 (pc' := 151) rfl rfl ?_
    refine g_iushr C at_151 (pc' := 152) rfl ?_
    refine g_istore C at_152 (pc' := 154) rfl (Ls' := #[.val (.int p0), .val (.int p1), .val (.int p2), .val (.int p3), .val (.long q4), .second, .val (.int kx), .val (.ref kd), .val (.int (2 : Int32)), .val (.int (99 : Int32)), .val (.int (Int32.ofNat N)), .val (.int (Int32.ofNat (126 - N))), .val (.int (Int32.ofNat s)), .val (.int (Int32.ofNat (s + 2))), .val (.int ((p2.toUInt32 >>> ((2 : Int32) &&& 31).toUInt32).toInt32)), .unset, .unset, .unset, .unset, .unset, .unset, .unset, .unset, .unset]) rfl ?_
    refine g_iload C at_154 (pc' := 156) rfl rfl ?_
    refine g_if_ne C at_156 (by decide) (pc' := 164) (by decide) (pcN := 159) rfl (fun _ => ?_) (fun q => absurd q hkx)
    refine g_iload C at_164 (pc' := 166) rfl rfl ?_
    refine g_iload C at_166 (pc' := 168) rfl rfl ?_
    refine g_iadd C at_168 (pc' := 169) rfl ?_
    refine g_istore C at_169 (pc' := 171) rfl (Ls' := #[.val (.int p0), .val (.int p1), .val (.int p2), .val (.int p3), .val (.long q4), .second, .val (.int kx), .val (.ref kd), .val (.int (2 : Int32)), .val (.int (99 : Int32)), .val (.int (Int32.ofNat N)), .val (.int (Int32.ofNat (126 - N))), .val (.int (Int32.ofNat s)), .val (.int (Int32.ofNat (s + 2))), .val (.int ((p2.toUInt32 >>> ((2 : Int32) &&& 31).toUInt32).toInt32)), .val (.int ((Int32.ofNat N) + ((p2.toUInt32 >>> ((2 : Int32) &&& 31).toUInt32).toInt32))), .unset, .unset, .unset, .unset, .unset, .unset, .unset, .unset]) rfl ?_
    exact g171_2 (C := C) hw p0 p1 p2 p3 q4 kx G1 ((p2.toUInt32 >>> ((2 : Int32) &&& 31).toUInt32).toInt32) ((Int32.ofNat N) + ((p2.toUInt32 >>> ((2 : Int32) &&& 31).toUInt32).toInt32)) G3 kd cs u8 iso s N CW Fd O2 P5 Ou Oi Oa ne_cs_u8 ne_cs_iso Ecs O4 rG3 Os hh hcw hI hPN hN (own_hM (by omega) (own_sl2 p2)) X
  · refine g_iloadN C at_141 (pc' := 142) rfl rfl ?_
    refine g_iconst C (z := (1 : Int32)) at_142 (pc' := 143) rfl rfl ?_
    refine g_iushr C at_143 (pc' := 144) rfl ?_
    refine g_iconst C (z := (3 : Int32)) at_144 (pc' := 145) rfl rfl ?_
    refine g_iand C at_145 (pc' := 146) rfl ?_
    refine g_goto C at_146 (by decide) (pc' := 152) (by decide) ?_
    refine g_istore C at_152 (pc' := 154) rfl (Ls' := #[.val (.int p0), .val (.int p1), .val (.int p2), .val (.int p3), .val (.long q4), .second, .val (.int kx), .val (.ref kd), .val (.int (2 : Int32)), .val (.int (99 : Int32)), .val (.int (Int32.ofNat N)), .val (.int (Int32.ofNat (126 - N))), .val (.int (Int32.ofNat s)), .val (.int (Int32.ofNat (s + 2))), .val (.int (((p2.toUInt32 >>> ((1 : Int32) &&& 31).toUInt32).toInt32) &&& (3 : Int32))), .unset, .unset, .unset, .unset, .unset, .unset, .unset, .unset, .unset]) rfl ?_
    refine g_iload C at_154 (pc' := 156) rfl rfl ?_
    refine g_if_ne C at_156 (by decide) (pc' := 164) (by decide) (pcN := 159) rfl (fun _ => ?_) (fun q => absurd q hkx)
    refine g_iload C at_164 (pc' := 166) rfl rfl ?_
    refine g_iload C at_166 (pc' := 168) rfl rfl ?_
    refine g_iadd C at_168 (pc' := 169) rfl ?_
    refine g_istore C at_169 (pc' := 171) rfl (Ls' := #[.val (.int p0), .val (.int p1), .val (.int p2), .val (.int p3), .val (.long q4), .second, .val (.int kx), .val (.ref kd), .val (.int (2 : Int32)), .val (.int (99 : Int32)), .val (.int (Int32.ofNat N)), .val (.int (Int32.ofNat (126 - N))), .val (.int (Int32.ofNat s)), .val (.int (Int32.ofNat (s + 2))), .val (.int (((p2.toUInt32 >>> ((1 : Int32) &&& 31).toUInt32).toInt32) &&& (3 : Int32))), .val (.int ((Int32.ofNat N) + (((p2.toUInt32 >>> ((1 : Int32) &&& 31).toUInt32).toInt32) &&& (3 : Int32)))), .unset, .unset, .unset, .unset, .unset, .unset, .unset, .unset]) rfl ?_
    exact g171_2 (C := C) hw p0 p1 p2 p3 q4 kx G1 (((p2.toUInt32 >>> ((1 : Int32) &&& 31).toUInt32).toInt32) &&& (3 : Int32)) ((Int32.ofNat N) + (((p2.toUInt32 >>> ((1 : Int32) &&& 31).toUInt32).toInt32) &&& (3 : Int32))) G3 kd cs u8 iso s N CW Fd O2 P5 Ou Oi Oa ne_cs_u8 ne_cs_iso Ecs O4 rG3 Os hh hcw hI hPN hN (own_hM (by omega) (own_sl1 p2)) X
set_option maxRecDepth 65536 in
set_option maxHeartbeats 40000000 in
theorem g310_3z {l : Launch} {Z : State} {a0 : Array Value} (hw : ∀ d ∈ tables_1, d.before a0 Z = true) {w : Wk} {n0 : Nat} {h0 : Heap} {Y : State → Outcome → Prop} (p0 p1 p2 p3 : Int32) (q4 : Int64) (kx G1 sl M : Int32) (G3 : Value) (kd cs u8 iso bt : Addr) (s : Nat) (F : Nat → Int32) (C : Cx w Z "com/example/longhaul/longhaul/FieldFormatReadPinLaw" code 24 (some .boolean) "law" room_1 n0 (fun v _ => v = some (.int 1)) Y) (CW : LvW w room_1 n0 (fun v _ => v = some (.int 1)) Y) (Fd : Fld Z Z.heap kd "com/example/longhaul/longhaul/Iso8583AsciiCodec$LengthKind" "digits" "I" (.int 3)) (O2 : Sta Z Z.heap "java/lang/String" "COMPACT_STRINGS" "Z" (.int G1)) (P5 : ¬ G1 = 0) (Ou : Sta Z Z.heap "sun/nio/cs/UTF_8" "INSTANCE" "Lsun/nio/cs/UTF_8;" (.ref u8)) (Oi : Sta Z Z.heap "sun/nio/cs/ISO_8859_1" "INSTANCE" "Lsun/nio/cs/ISO_8859_1;" (.ref iso)) (Oa : Sta Z Z.heap "sun/nio/cs/US_ASCII" "INSTANCE" "Lsun/nio/cs/US_ASCII;" (.ref cs)) (ne_cs_u8 : cs ≠ u8) (ne_cs_iso : cs ≠ iso) (Ecs : Exa Z Z.heap cs "sun/nio/cs/US_ASCII") (O4 : Sta Z Z.heap "jdk/internal/util/Preconditions" "SIOOBE_FORMATTER" "Ljava/util/function/BiFunction;" G3) (rG3 : G3.isRef = true) (Os : Sta Z Z.heap "java/nio/charset/StandardCharsets" "US_ASCII" "Ljava/nio/charset/Charset;" (.ref cs)) (hh : Jvm.Lit.constHeld Z "java/lang/String" 7) (hcw : Jvm.Lit.compactW.before a0 Z = true) (hI : w.s.vm.interned = Z.vm.interned) (hPN : (s + 3) + 0 ≤ 128) (hM : ¬ M < Int32.ofNat 0) (X : Old Z n0 h0) (A : Arf Z h0 bt "[B" .byte (128 : Int32) (fun j => .int (F j))) (gb : n0 ≤ bt) (hF : own_ok F) (hg0 : F s = own_dg (Int32.ofNat 0 / 100)) (hg1 : F (s + 1) = own_dg ((Int32.ofNat 0 / 10) % 10)) (hg2 : F (s + 1 + 1) = own_dg (Int32.ofNat 0 % 10)) :
    Go w l room_1 n0 Y h0 1 128 310 #[.val (.int p0), .val (.int p1), .val (.int p2), .val (.int p3), .val (.long q4), .second, .val (.int kx), .val (.ref kd), .val (.int (3 : Int32)), .val (.int (125 : Int32)), .val (.int (Int32.ofNat 0)), .val (.int (Int32.ofNat (125 - 0))), .val (.int (Int32.ofNat s)), .val (.int (Int32.ofNat (s + 3))), .val (.int sl), .val (.int M), .val (.ref bt), .unset, .unset, .unset, .unset, .unset, .unset, .unset] [] := by
  refine g_iconst C (z := (0 : Int32)) at_310 (pc' := 311) rfl rfl ?_
  refine g_istore C at_311 (pc' := 313) rfl (Ls' := #[.val (.int p0), .val (.int p1), .val (.int p2), .val (.int p3), .val (.long q4), .second, .val (.int kx), .val (.ref kd), .val (.int (3 : Int32)), .val (.int (125 : Int32)), .val (.int (Int32.ofNat 0)), .val (.int (Int32.ofNat (125 - 0))), .val (.int (Int32.ofNat s)), .val (.int (Int32.ofNat (s + 3))), .val (.int sl), .val (.int M), .val (.ref bt), .val (.int (0 : Int32)), .unset, .unset, .unset, .unset, .unset, .unset]) rfl ?_
  refine g_iload C at_313 (pc' := 315) rfl rfl ?_
  refine g_if_le C at_315 (by decide) (pc' := 374) (by decide) (pcN := 318) rfl (fun _ => ?_) (fun q => absurd q (by decide))
  exact f374_3z (C := C) hw p0 p1 p2 p3 q4 kx G1 sl M G3 kd cs u8 iso bt s 0 F CW Fd O2 P5 Ou Oi Oa ne_cs_u8 ne_cs_iso Ecs O4 rG3 Os hh hcw hI hPN hM X A gb hF hg0 hg1 hg2
set_option maxRecDepth 65536 in
set_option maxHeartbeats 40000000 in
theorem g289_3 {l : Launch} {Z : State} {a0 : Array Value} (hw : ∀ d ∈ tables_1, d.before a0 Z = true) {w : Wk} {n0 : Nat} {h0 : Heap} {Y : State → Outcome → Prop} (p0 p1 p2 p3 : Int32) (q4 : Int64) (kx G1 sl M : Int32) (G3 : Value) (kd cs u8 iso bt : Addr) (s N : Nat) (F : Nat → Int32) (C : Cx w Z "com/example/longhaul/longhaul/FieldFormatReadPinLaw" code 24 (some .boolean) "law" room_1 n0 (fun v _ => v = some (.int 1)) Y) (CW : LvW w room_1 n0 (fun v _ => v = some (.int 1)) Y) (Fd : Fld Z Z.heap kd "com/example/longhaul/longhaul/Iso8583AsciiCodec$LengthKind" "digits" "I" (.int 3)) (O2 : Sta Z Z.heap "java/lang/String" "COMPACT_STRINGS" "Z" (.int G1)) (P5 : ¬ G1 = 0) (Ou : Sta Z Z.heap "sun/nio/cs/UTF_8" "INSTANCE" "Lsun/nio/cs/UTF_8;" (.ref u8)) (Oi : Sta Z Z.heap "sun/nio/cs/ISO_8859_1" "INSTANCE" "Lsun/nio/cs/ISO_8859_1;" (.ref iso)) (Oa : Sta Z Z.heap "sun/nio/cs/US_ASCII" "INSTANCE" "Lsun/nio/cs/US_ASCII;" (.ref cs)) (ne_cs_u8 : cs ≠ u8) (ne_cs_iso : cs ≠ iso) (Ecs : Exa Z Z.heap cs "sun/nio/cs/US_ASCII") (O4 : Sta Z Z.heap "jdk/internal/util/Preconditions" "SIOOBE_FORMATTER" "Ljava/util/function/BiFunction;" G3) (rG3 : G3.isRef = true) (Os : Sta Z Z.heap "java/nio/charset/StandardCharsets" "US_ASCII" "Ljava/nio/charset/Charset;" (.ref cs)) (hh : Jvm.Lit.constHeld Z "java/lang/String" 7) (hcw : Jvm.Lit.compactW.before a0 Z = true) (hI : w.s.vm.interned = Z.vm.interned) (hPN : (s + 3) + N ≤ 128) (hN : N ≤ 125) (hM : ¬ M < Int32.ofNat N) (X : Old Z n0 h0) (A : Arf Z h0 bt "[B" .byte (128 : Int32) (fun j => .int (F j))) (gb : n0 ≤ bt) (hF : own_ok F) (hg0 : F s = own_dg (Int32.ofNat N / 100)) (hg1 : F (s + 1) = own_dg ((Int32.ofNat N / 10) % 10)) (hg2 : F (s + 1 + 1) = own_dg (Int32.ofNat N % 10)) :
    Go w l room_1 n0 Y h0 1 128 289 #[.val (.int p0), .val (.int p1), .val (.int p2), .val (.int p3), .val (.long q4), .second, .val (.int kx), .val (.ref kd), .val (.int (3 : Int32)), .val (.int (125 : Int32)), .val (.int (Int32.ofNat N)), .val (.int (Int32.ofNat (125 - N))), .val (.int (Int32.ofNat s)), .val (.int (Int32.ofNat (s + 3))), .val (.int sl), .val (.int M), .val (.ref bt), .unset, .unset, .unset, .unset, .unset, .unset, .unset] [] := by
  refine g_iload C at_289 (pc' := 291) rfl rfl ?_
  refine g_if_le C at_291 (by decide) (pc' := 310) (by decide) (pcN := 294) rfl (fun q291 => ?_) (fun q291 => ?_)
  · exact (by
          obtain rfl : N = 0 := own_nz0 q291 (by omega)
          exact g310_3z (C := C) hw p0 p1 p2 p3 q4 kx G1 sl M G3 kd cs u8 iso bt s F CW Fd O2 P5 Ou Oi Oa ne_cs_u8 ne_cs_iso Ecs O4 rG3 Os hh hcw hI hPN hM X A gb hF hg0 hg1 hg2)
  · have h1 : 1 ≤ N := own_nz1 q291 (by omega)
    refine g_lload C at_294 (pc' := 296) rfl rfl ?_
    refine g_bipush C (z := (40 : Int32)) at_296 (pc' := 298) rfl rfl ?_
    refine g_lushr C at_298 (pc' := 299) rfl ?_
    refine g_ldc2J C (hw _ (List.mem_of_getElem? (i := 5) rfl)) at_299 (pc' := 302) rfl ?_
    refine g_land C at_302 (pc' := 303) rfl ?_
    refine g_l2i C at_303 (pc' := 304) rfl ?_
    refine g_iload C at_304 (pc' := 306) rfl rfl ?_
    refine g_irem C at_306 (pc' := 307) rfl (own_n0 h1 (by omega)) ?_
    refine g_goto C at_307 (by decide) (pc' := 311) (by decide) ?_
    obtain ⟨m, hm, em⟩ := own_m7 ((q4.toUInt64 >>> ((40 : Int32) &&& 0x3f).toInt64.toUInt64).toInt64) h1 (by omega)
    rw [em]
    show Go w l _ n0 _ h0 1 128 311 #[.val (.int p0), .val (.int p1), .val (.int p2), .val (.int p3), .val (.long q4), .second, .val (.int kx), .val (.ref kd), .val (.int (3 : Int32)), .val (.int (125 : Int32)), .val (.int (Int32.ofNat N)), .val (.int (Int32.ofNat (125 - N))), .val (.int (Int32.ofNat s)), .val (.int (Int32.ofNat (s + 3))), .val (.int sl), .val (.int M), .val (.ref bt), .unset, .unset, .unset, .unset, .unset, .unset, .unset] [(.int (Int32.ofNat m))]
    refine g_istore C at_311 (pc' := 313) rfl (Ls' := #[.val (.int p0), .val (.int p1), .val (.int p2), .val (.int p3), .val (.long q4), .second, .val (.int kx), .val (.ref kd), .val (.int (3 : Int32)), .val (.int (125 : Int32)), .val (.int (Int32.ofNat N)), .val (.int (Int32.ofNat (125 - N))), .val (.int (Int32.ofNat s)), .val (.int (Int32.ofNat (s + 3))), .val (.int sl), .val (.int M), .val (.ref bt), .val (.int (Int32.ofNat m)), .unset, .unset, .unset, .unset, .unset, .unset]) rfl ?_
    refine g_iload C at_313 (pc' := 315) rfl rfl ?_
    refine g_if_le C at_315 (by decide) (pc' := 374) (by decide) (pcN := 318) rfl (fun q => absurd q291 q) (fun _ => ?_)
    refine g_aload C at_318 (pc' := 320) rfl rfl rfl ?_
    refine g_iload C at_320 (pc' := 322) rfl rfl ?_
    refine g_lload C at_322 (pc' := 324) rfl rfl ?_
    refine g_bipush C (z := (8 : Int32)) at_324 (pc' := 326) rfl rfl ?_
    refine g_lushr C at_326 (pc' := 327) rfl ?_
    refine g_ldc2J C (hw _ (List.mem_of_getElem? (i := 5) rfl)) at_327 (pc' := 330) rfl ?_
    refine g_land C at_330 (pc' := 331) rfl ?_
    refine g_l2i C at_331 (pc' := 332) rfl ?_
    refine g_i2b C at_332 (pc' := 333) rfl ?_
    refine g_bastore C A (n32_nn (by omega)) (n32_lt (n := 128) (by omega) (by omega)) at_333 (pc' := 334) rfl gb (fun h136 W137 A' => ?_)
    have X := X.wr W137 gb
    have A : Arf Z h136 bt "[B" .byte (128 : Int32) (upd (fun j => .int (F j)) (Int32.ofNat (s + 3)).toNatClampNeg (.int (nar .byte (((((q4.toUInt64 >>> ((8 : Int32) &&& 0x3f).toInt64.toUInt64).toInt64) &&& (127 : Int64)).toInt32).toInt8.toInt32)))) := A'
    have A : Arf Z h136 bt "[B" .byte (128 : Int32) (fun j => .int ((own_w F (s + 3) (nar .byte (((((q4.toUInt64 >>> ((8 : Int32) &&& 0x3f).toInt64.toUInt64).toInt64) &&& (127 : Int64)).toInt32).toInt8.toInt32))) j)) := A.congr fun j _ => own_wr (by omega) (nar .byte (((((q4.toUInt64 >>> ((8 : Int32) &&& 0x3f).toInt64.toUInt64).toInt64) &&& (127 : Int64)).toInt32).toInt8.toInt32)) j
    refine g_aload C at_334 (pc' := 336) rfl rfl rfl ?_
    refine g_iload C at_336 (pc' := 338) rfl rfl ?_
    refine g_iload C at_338 (pc' := 340) rfl rfl ?_
    refine g_iadd C at_340 (pc' := 341) rfl ?_
    rw [← Int32.ofNat_add]
    show Go w l _ n0 _ h136 1 128 341 #[.val (.int p0), .val (.int p1), .val (.int p2), .val (.int p3), .val (.long q4), .second, .val (.int kx), .val (.ref kd), .val (.int (3 : Int32)), .val (.int (125 : Int32)), .val (.int (Int32.ofNat N)), .val (.int (Int32.ofNat (125 - N))), .val (.int (Int32.ofNat s)), .val (.int (Int32.ofNat (s + 3))), .val (.int sl), .val (.int M), .val (.ref bt), .val (.int (Int32.ofNat m)), .unset, .unset, .unset, .unset, .unset, .unset] [(.int (Int32.ofNat ((s + 3) + N))), (.ref bt)]
    refine g_iconst C (z := (1 : Int32)) at_341 (pc' := 342) rfl rfl ?_
    refine g_isub C at_342 (pc' := 343) rfl ?_
    rw [own_pred (by omega) (by omega)]
    show Go w l _ n0 _ h136 1 128 343 #[.val (.int p0), .val (.int p1), .val (.int p2), .val (.int p3), .val (.long q4), .second, .val (.int kx), .val (.ref kd), .val (.int (3 : Int32)), .val (.int (125 : Int32)), .val (.int (Int32.ofNat N)), .val (.int (Int32.ofNat (125 - N))), .val (.int (Int32.ofNat s)), .val (.int (Int32.ofNat (s + 3))), .val (.int sl), .val (.int M), .val (.ref bt), .val (.int (Int32.ofNat m)), .unset, .unset, .unset, .unset, .unset, .unset] [(.int (Int32.ofNat ((s + 3) + N - 1))), (.ref bt)]
    refine g_lload C at_343 (pc' := 345) rfl rfl ?_
    refine g_bipush C (z := (16 : Int32)) at_345 (pc' := 347) rfl rfl ?_
    refine g_lushr C at_347 (pc' := 348) rfl ?_
    refine g_ldc2J C (hw _ (List.mem_of_getElem? (i := 5) rfl)) at_348 (pc' := 351) rfl ?_
    refine g_land C at_351 (pc' := 352) rfl ?_
    refine g_l2i C at_352 (pc' := 353) rfl ?_
    refine g_i2b C at_353 (pc' := 354) rfl ?_
    refine g_bastore C A (n32_nn (by omega)) (n32_lt (n := 128) (by omega) (by omega)) at_354 (pc' := 355) rfl gb (fun h138 W139 A' => ?_)
    have X := X.wr W139 gb
    have A : Arf Z h138 bt "[B" .byte (128 : Int32) (upd (fun j => .int ((own_w F (s + 3) (nar .byte (((((q4.toUInt64 >>> ((8 : Int32) &&& 0x3f).toInt64.toUInt64).toInt64) &&& (127 : Int64)).toInt32).toInt8.toInt32))) j)) (Int32.ofNat ((s + 3) + N - 1)).toNatClampNeg (.int (nar .byte (((((q4.toUInt64 >>> ((16 : Int32) &&& 0x3f).toInt64.toUInt64).toInt64) &&& (127 : Int64)).toInt32).toInt8.toInt32)))) := A'
    have A : Arf Z h138 bt "[B" .byte (128 : Int32) (fun j => .int ((own_w (own_w F (s + 3) (nar .byte (((((q4.toUInt64 >>> ((8 : Int32) &&& 0x3f).toInt64.toUInt64).toInt64) &&& (127 : Int64)).toInt32).toInt8.toInt32))) ((s + 3) + N - 1) (nar .byte (((((q4.toUInt64 >>> ((16 : Int32) &&& 0x3f).toInt64.toUInt64).toInt64) &&& (127 : Int64)).toInt32).toInt8.toInt32))) j)) := A.congr fun j _ => own_wr (by omega) (nar .byte (((((q4.toUInt64 >>> ((16 : Int32) &&& 0x3f).toInt64.toUInt64).toInt64) &&& (127 : Int64)).toInt32).toInt8.toInt32)) j
    refine g_aload C at_355 (pc' := 357) rfl rfl rfl ?_
    refine g_iload C at_357 (pc' := 359) rfl rfl ?_
    refine g_iload C at_359 (pc' := 361) rfl rfl ?_
    refine g_iadd C at_361 (pc' := 362) rfl ?_
    rw [← Int32.ofNat_add]
    show Go w l _ n0 _ h138 1 128 362 #[.val (.int p0), .val (.int p1), .val (.int p2), .val (.int p3), .val (.long q4), .second, .val (.int kx), .val (.ref kd), .val (.int (3 : Int32)), .val (.int (125 : Int32)), .val (.int (Int32.ofNat N)), .val (.int (Int32.ofNat (125 - N))), .val (.int (Int32.ofNat s)), .val (.int (Int32.ofNat (s + 3))), .val (.int sl), .val (.int M), .val (.ref bt), .val (.int (Int32.ofNat m)), .unset, .unset, .unset, .unset, .unset, .unset] [(.int (Int32.ofNat ((s + 3) + m))), (.ref bt)]
    refine g_lload C at_362 (pc' := 364) rfl rfl ?_
    refine g_bipush C (z := (24 : Int32)) at_364 (pc' := 366) rfl rfl ?_
    refine g_lushr C at_366 (pc' := 367) rfl ?_
    refine g_ldc2J C (hw _ (List.mem_of_getElem? (i := 5) rfl)) at_367 (pc' := 370) rfl ?_
    refine g_land C at_370 (pc' := 371) rfl ?_
    refine g_l2i C at_371 (pc' := 372) rfl ?_
    refine g_i2b C at_372 (pc' := 373) rfl ?_
    refine g_bastore C A (n32_nn (by omega)) (n32_lt (n := 128) (by omega) (by omega)) at_373 (pc' := 374) rfl gb (fun h140 W141 A' => ?_)
    have X := X.wr W141 gb
    have A : Arf Z h140 bt "[B" .byte (128 : Int32) (upd (fun j => .int ((own_w (own_w F (s + 3) (nar .byte (((((q4.toUInt64 >>> ((8 : Int32) &&& 0x3f).toInt64.toUInt64).toInt64) &&& (127 : Int64)).toInt32).toInt8.toInt32))) ((s + 3) + N - 1) (nar .byte (((((q4.toUInt64 >>> ((16 : Int32) &&& 0x3f).toInt64.toUInt64).toInt64) &&& (127 : Int64)).toInt32).toInt8.toInt32))) j)) (Int32.ofNat ((s + 3) + m)).toNatClampNeg (.int (nar .byte (((((q4.toUInt64 >>> ((24 : Int32) &&& 0x3f).toInt64.toUInt64).toInt64) &&& (127 : Int64)).toInt32).toInt8.toInt32)))) := A'
    have A : Arf Z h140 bt "[B" .byte (128 : Int32) (fun j => .int ((own_w (own_w (own_w F (s + 3) (nar .byte (((((q4.toUInt64 >>> ((8 : Int32) &&& 0x3f).toInt64.toUInt64).toInt64) &&& (127 : Int64)).toInt32).toInt8.toInt32))) ((s + 3) + N - 1) (nar .byte (((((q4.toUInt64 >>> ((16 : Int32) &&& 0x3f).toInt64.toUInt64).toInt64) &&& (127 : Int64)).toInt32).toInt8.toInt32))) ((s + 3) + m) (nar .byte (((((q4.toUInt64 >>> ((24 : Int32) &&& 0x3f).toInt64.toUInt64).toInt64) &&& (127 : Int64)).toInt32).toInt8.toInt32))) j)) := A.congr fun j _ => own_wr (by omega) (nar .byte (((((q4.toUInt64 >>> ((24 : Int32) &&& 0x3f).toInt64.toUInt64).toInt64) &&& (127 : Int64)).toInt32).toInt8.toInt32)) j
    exact f374_3 (C := C) hw p0 p1 p2 p3 q4 kx G1 sl M G3 kd cs u8 iso bt s N m (own_w (own_w (own_w F (s + 3) (nar .byte (((((q4.toUInt64 >>> ((8 : Int32) &&& 0x3f).toInt64.toUInt64).toInt64) &&& (127 : Int64)).toInt32).toInt8.toInt32))) ((s + 3) + N - 1) (nar .byte (((((q4.toUInt64 >>> ((16 : Int32) &&& 0x3f).toInt64.toUInt64).toInt64) &&& (127 : Int64)).toInt32).toInt8.toInt32))) ((s + 3) + m) (nar .byte (((((q4.toUInt64 >>> ((24 : Int32) &&& 0x3f).toInt64.toUInt64).toInt64) &&& (127 : Int64)).toInt32).toInt8.toInt32))) CW Fd O2 P5 Ou Oi Oa ne_cs_u8 ne_cs_iso Ecs O4 rG3 Os hh hcw hI hPN h1 hm hN hM X A gb (own_okw (own_okw (own_okw hF (own_v7 _)) (own_v7 _)) (own_v7 _)) ((own_wne (by omega)).trans ((own_wne (by omega)).trans ((own_wne (by omega)).trans hg0))) ((own_wne (by omega)).trans ((own_wne (by omega)).trans ((own_wne (by omega)).trans hg1))) ((own_wne (by omega)).trans ((own_wne (by omega)).trans ((own_wne (by omega)).trans hg2)))
set_option maxRecDepth 65536 in
set_option maxHeartbeats 40000000 in
theorem g198_3 {l : Launch} {Z : State} {a0 : Array Value} (hw : ∀ d ∈ tables_1, d.before a0 Z = true) {w : Wk} {n0 : Nat} {h0 : Heap} {Y : State → Outcome → Prop} (p0 p1 p2 p3 : Int32) (q4 : Int64) (kx G1 sl M : Int32) (G3 : Value) (kd cs u8 iso bt : Addr) (s N : Nat) (F : Nat → Int32) (C : Cx w Z "com/example/longhaul/longhaul/FieldFormatReadPinLaw" code 24 (some .boolean) "law" room_1 n0 (fun v _ => v = some (.int 1)) Y) (CW : LvW w room_1 n0 (fun v _ => v = some (.int 1)) Y) (Fd : Fld Z Z.heap kd "com/example/longhaul/longhaul/Iso8583AsciiCodec$LengthKind" "digits" "I" (.int 3)) (O2 : Sta Z Z.heap "java/lang/String" "COMPACT_STRINGS" "Z" (.int G1)) (P5 : ¬ G1 = 0) (Ou : Sta Z Z.heap "sun/nio/cs/UTF_8" "INSTANCE" "Lsun/nio/cs/UTF_8;" (.ref u8)) (Oi : Sta Z Z.heap "sun/nio/cs/ISO_8859_1" "INSTANCE" "Lsun/nio/cs/ISO_8859_1;" (.ref iso)) (Oa : Sta Z Z.heap "sun/nio/cs/US_ASCII" "INSTANCE" "Lsun/nio/cs/US_ASCII;" (.ref cs)) (ne_cs_u8 : cs ≠ u8) (ne_cs_iso : cs ≠ iso) (Ecs : Exa Z Z.heap cs "sun/nio/cs/US_ASCII") (O4 : Sta Z Z.heap "jdk/internal/util/Preconditions" "SIOOBE_FORMATTER" "Ljava/util/function/BiFunction;" G3) (rG3 : G3.isRef = true) (Os : Sta Z Z.heap "java/nio/charset/StandardCharsets" "US_ASCII" "Ljava/nio/charset/Charset;" (.ref cs)) (hh : Jvm.Lit.constHeld Z "java/lang/String" 7) (hcw : Jvm.Lit.compactW.before a0 Z = true) (hI : w.s.vm.interned = Z.vm.interned) (hPN : (s + 3) + N ≤ 128) (hN : N ≤ 125) (hM : ¬ M < Int32.ofNat N) (X : Old Z n0 h0) (A : Arf Z h0 bt "[B" .byte (128 : Int32) (fun j => .int (F j))) (gb : n0 ≤ bt) (hF : own_ok F) :
    Go w l room_1 n0 Y h0 1 128 198 #[.val (.int p0), .val (.int p1), .val (.int p2), .val (.int p3), .val (.long q4), .second, .val (.int kx), .val (.ref kd), .val (.int (3 : Int32)), .val (.int (125 : Int32)), .val (.int (Int32.ofNat N)), .val (.int (Int32.ofNat (125 - N))), .val (.int (Int32.ofNat s)), .val (.int (Int32.ofNat (s + 3))), .val (.int sl), .val (.int M), .val (.ref bt), .unset, .unset, .unset, .unset, .unset, .unset, .unset] [] := by
  refine g_iload C at_198 (pc' := 200) rfl rfl ?_
  refine g_iconst C (z := (2 : Int32)) at_200 (pc' := 201) rfl rfl ?_
  refine g_icmp_ne C at_201 (by decide) (pc' := 234) (by decide) (pcN := 204) rfl (fun _ => ?_) (fun q => absurd q (by decide))
  refine g_iload C at_234 (pc' := 236) rfl rfl ?_
  refine g_iconst C (z := (3 : Int32)) at_236 (pc' := 237) rfl rfl ?_
  refine g_icmp_ne C at_237 (by decide) (pc' := 289) (by decide) (pcN := 240) rfl (fun q => absurd rfl q) (fun _ => ?_)
  refine g_aload C at_240 (pc' := 242) rfl rfl rfl ?_
  refine g_iload C at_242 (pc' := 244) rfl rfl ?_
  refine g_bipush C (z := (48 : Int32)) at_244 (pc' := 246) rfl rfl ?_
  refine g_iload C at_246 (pc' := 248) rfl rfl ?_
  refine g_bipush C (z := (100 : Int32)) at_248 (pc' := 250) rfl rfl ?_
  refine g_idiv C at_250 (pc' := 251) rfl (by decide) ?_
  refine g_iadd C at_251 (pc' := 252) rfl ?_
  refine g_i2b C at_252 (pc' := 253) rfl ?_
  refine g_bastore C A (n32_nn (by omega)) (n32_lt (n := 128) (by omega) (by omega)) at_253 (pc' := 254) rfl gb (fun h142 W143 A' => ?_)
  have X := X.wr W143 gb
  have A : Arf Z h142 bt "[B" .byte (128 : Int32) (upd (fun j => .int (F j)) (Int32.ofNat s).toNatClampNeg (.int (nar .byte (((48 : Int32) + ((Int32.ofNat N) / (100 : Int32))).toInt8.toInt32)))) := A'
  have A : Arf Z h142 bt "[B" .byte (128 : Int32) (fun j => .int ((own_w F s (own_dg (Int32.ofNat N / 100))) j)) := A.congr fun j _ => own_wr (by omega) (own_dg (Int32.ofNat N / 100)) j
  refine g_aload C at_254 (pc' := 256) rfl rfl rfl ?_
  refine g_iload C at_256 (pc' := 258) rfl rfl ?_
  refine g_iconst C (z := (1 : Int32)) at_258 (pc' := 259) rfl rfl ?_
  refine g_iadd C at_259 (pc' := 260) rfl ?_
  rw [n32_succ]
  show Go w l _ n0 _ h142 1 128 260 #[.val (.int p0), .val (.int p1), .val (.int p2), .val (.int p3), .val (.long q4), .second, .val (.int kx), .val (.ref kd), .val (.int (3 : Int32)), .val (.int (125 : Int32)), .val (.int (Int32.ofNat N)), .val (.int (Int32.ofNat (125 - N))), .val (.int (Int32.ofNat s)), .val (.int (Int32.ofNat (s + 3))), .val (.int sl), .val (.int M), .val (.ref bt), .unset, .unset, .unset, .unset, .unset, .unset, .unset] [(.int (Int32.ofNat (s + 1))), (.ref bt)]
  refine g_bipush C (z := (48 : Int32)) at_260 (pc' := 262) rfl rfl ?_
  refine g_iload C at_262 (pc' := 264) rfl rfl ?_
  refine g_bipush C (z := (10 : Int32)) at_264 (pc' := 266) rfl rfl ?_
  refine g_idiv C at_266 (pc' := 267) rfl (by decide) ?_
  refine g_bipush C (z := (10 : Int32)) at_267 (pc' := 269) rfl rfl ?_
  refine g_irem C at_269 (pc' := 270) rfl (by decide) ?_
  refine g_iadd C at_270 (pc' := 271) rfl ?_
  refine g_i2b C at_271 (pc' := 272) rfl ?_
  refine g_bastore C A (n32_nn (by omega)) (n32_lt (n := 128) (by omega) (by omega)) at_272 (pc' := 273) rfl gb (fun h144 W145 A' => ?_)
  have X := X.wr W145 gb
  have A : Arf Z h144 bt "[B" .byte (128 : Int32) (upd (fun j => .int ((own_w F s (own_dg (Int32.ofNat N / 100))) j)) (Int32.ofNat (s + 1)).toNatClampNeg (.int (nar .byte (((48 : Int32) + (((Int32.ofNat N) / (10 : Int32)) % (10 : Int32))).toInt8.toInt32)))) := A'
  have A : Arf Z h144 bt "[B" .byte (128 : Int32) (fun j => .int ((own_w (own_w F s (own_dg (Int32.ofNat N / 100))) (s + 1) (own_dg ((Int32.ofNat N / 10) % 10))) j)) := A.congr fun j _ => own_wr (by omega) (own_dg ((Int32.ofNat N / 10) % 10)) j
  refine g_aload C at_273 (pc' := 275) rfl rfl rfl ?_
  refine g_iload C at_275 (pc' := 277) rfl rfl ?_
  refine g_iconst C (z := (2 : Int32)) at_277 (pc' := 278) rfl rfl ?_
  refine g_iadd C at_278 (pc' := 279) rfl ?_
  rw [own_ix (K := (2 : Int32)) (k := 2) rfl]
  show Go w l _ n0 _ h144 1 128 279 #[.val (.int p0), .val (.int p1), .val (.int p2), .val (.int p3), .val (.long q4), .second, .val (.int kx), .val (.ref kd), .val (.int (3 : Int32)), .val (.int (125 : Int32)), .val (.int (Int32.ofNat N)), .val (.int (Int32.ofNat (125 - N))), .val (.int (Int32.ofNat s)), .val (.int (Int32.ofNat (s + 3))), .val (.int sl), .val (.int M), .val (.ref bt), .unset, .unset, .unset, .unset, .unset, .unset, .unset] [(.int (Int32.ofNat (s + 1 + 1))), (.ref bt)]
  refine g_bipush C (z := (48 : Int32)) at_279 (pc' := 281) rfl rfl ?_
  refine g_iload C at_281 (pc' := 283) rfl rfl ?_
  refine g_bipush C (z := (10 : Int32)) at_283 (pc' := 285) rfl rfl ?_
  refine g_irem C at_285 (pc' := 286) rfl (by decide) ?_
  refine g_iadd C at_286 (pc' := 287) rfl ?_
  refine g_i2b C at_287 (pc' := 288) rfl ?_
  refine g_bastore C A (n32_nn (by omega)) (n32_lt (n := 128) (by omega) (by omega)) at_288 (pc' := 289) rfl gb (fun h146 W147 A' => ?_)
  have X := X.wr W147 gb
  have A : Arf Z h146 bt "[B" .byte (128 : Int32) (upd (fun j => .int ((own_w (own_w F s (own_dg (Int32.ofNat N / 100))) (s + 1) (own_dg ((Int32.ofNat N / 10) % 10))) j)) (Int32.ofNat (s + 1 + 1)).toNatClampNeg (.int (nar .byte (((48 : Int32) + ((Int32.ofNat N) % (10 : Int32))).toInt8.toInt32)))) := A'
  have A : Arf Z h146 bt "[B" .byte (128 : Int32) (fun j => .int ((own_w (own_w (own_w F s (own_dg (Int32.ofNat N / 100))) (s + 1) (own_dg ((Int32.ofNat N / 10) % 10))) (s + 1 + 1) (own_dg (Int32.ofNat N % 10))) j)) := A.congr fun j _ => own_wr (by omega) (own_dg (Int32.ofNat N % 10)) j
  exact g289_3 (C := C) hw p0 p1 p2 p3 q4 kx G1 sl M G3 kd cs u8 iso bt s N (own_w (own_w (own_w F s (own_dg (Int32.ofNat N / 100))) (s + 1) (own_dg ((Int32.ofNat N / 10) % 10))) (s + 1 + 1) (own_dg (Int32.ofNat N % 10))) CW Fd O2 P5 Ou Oi Oa ne_cs_u8 ne_cs_iso Ecs O4 rG3 Os hh hcw hI hPN hN hM X A gb (own_okw (own_okw (own_okw hF (by rw [own_dgv (by rw [own_q100 (by omega)]; omega), own_q100 (by omega)]; omega)) (by rw [own_dgv (by rw [own_qr (by omega)]; omega), own_qr (by omega)]; omega)) (by rw [own_dgv (by rw [own_r10 (by omega)]; omega), own_r10 (by omega)]; omega)) ((own_wne (by omega)).trans ((own_wne (by omega)).trans (own_weq _ _ _))) ((own_wne (by omega)).trans (own_weq _ _ _)) (own_weq _ _ _)
set_option maxRecDepth 65536 in
set_option maxHeartbeats 40000000 in
theorem g171_3 {l : Launch} {Z : State} {a0 : Array Value} (hw : ∀ d ∈ tables_1, d.before a0 Z = true) {w : Wk} {n0 : Nat} {h0 : Heap} {Y : State → Outcome → Prop} (p0 p1 p2 p3 : Int32) (q4 : Int64) (kx G1 sl M : Int32) (G3 : Value) (kd cs u8 iso : Addr) (s N : Nat) (C : Cx w Z "com/example/longhaul/longhaul/FieldFormatReadPinLaw" code 24 (some .boolean) "law" room_1 n0 (fun v _ => v = some (.int 1)) Y) (CW : LvW w room_1 n0 (fun v _ => v = some (.int 1)) Y) (Fd : Fld Z Z.heap kd "com/example/longhaul/longhaul/Iso8583AsciiCodec$LengthKind" "digits" "I" (.int 3)) (O2 : Sta Z Z.heap "java/lang/String" "COMPACT_STRINGS" "Z" (.int G1)) (P5 : ¬ G1 = 0) (Ou : Sta Z Z.heap "sun/nio/cs/UTF_8" "INSTANCE" "Lsun/nio/cs/UTF_8;" (.ref u8)) (Oi : Sta Z Z.heap "sun/nio/cs/ISO_8859_1" "INSTANCE" "Lsun/nio/cs/ISO_8859_1;" (.ref iso)) (Oa : Sta Z Z.heap "sun/nio/cs/US_ASCII" "INSTANCE" "Lsun/nio/cs/US_ASCII;" (.ref cs)) (ne_cs_u8 : cs ≠ u8) (ne_cs_iso : cs ≠ iso) (Ecs : Exa Z Z.heap cs "sun/nio/cs/US_ASCII") (O4 : Sta Z Z.heap "jdk/internal/util/Preconditions" "SIOOBE_FORMATTER" "Ljava/util/function/BiFunction;" G3) (rG3 : G3.isRef = true) (Os : Sta Z Z.heap "java/nio/charset/StandardCharsets" "US_ASCII" "Ljava/nio/charset/Charset;" (.ref cs)) (hh : Jvm.Lit.constHeld Z "java/lang/String" 7) (hcw : Jvm.Lit.compactW.before a0 Z = true) (hI : w.s.vm.interned = Z.vm.interned) (hPN : (s + 3) + N ≤ 128) (hN : N ≤ 125) (hM : ¬ M < Int32.ofNat N) (X : Old Z n0 h0) :
    Go w l room_1 n0 Y h0 0 0 171 #[.val (.int p0), .val (.int p1), .val (.int p2), .val (.int p3), .val (.long q4), .second, .val (.int kx), .val (.ref kd), .val (.int (3 : Int32)), .val (.int (125 : Int32)), .val (.int (Int32.ofNat N)), .val (.int (Int32.ofNat (125 - N))), .val (.int (Int32.ofNat s)), .val (.int (Int32.ofNat (s + 3))), .val (.int sl), .val (.int M), .unset, .unset, .unset, .unset, .unset, .unset, .unset, .unset] [] := by
  refine g_sipush C (z := (128 : Int32)) at_171 (pc' := 174) rfl rfl ?_
  refine g_newarr C (ad := "[B") (cap := 128) (hw _ (List.mem_of_getElem? (i := 4) rfl)) at_174 (pc' := 176) rfl rfl (by decide) (by decide) (by decide) (k' := 1) (n' := 128) rfl rfl (by decide) (by decide) rfl ?_
  intro h148 b148 E148 fb148 gb148 A148
  have X := X.ext E148
  have A148 : Arf Z h148 b148 "[B" .byte (128 : Int32) (fun _ => (.int 0)) := A148
  refine g_astore C at_176 (pc' := 178) rfl rfl (Ls' := #[.val (.int p0), .val (.int p1), .val (.int p2), .val (.int p3), .val (.long q4), .second, .val (.int kx), .val (.ref kd), .val (.int (3 : Int32)), .val (.int (125 : Int32)), .val (.int (Int32.ofNat N)), .val (.int (Int32.ofNat (125 - N))), .val (.int (Int32.ofNat s)), .val (.int (Int32.ofNat (s + 3))), .val (.int sl), .val (.int M), .val (.ref b148), .unset, .unset, .unset, .unset, .unset, .unset, .unset]) rfl ?_
  have A148 : Arf Z h148 b148 "[B" .byte (128 : Int32) (fun j => .int ((fun _ => (0 : Int32)) j)) := A148
  refine g_iload C at_178 (pc' := 180) rfl rfl ?_
  refine g_if_le C at_180 (by decide) (pc' := 198) (by decide) (pcN := 183) rfl (fun q180 => ?_) (fun q180 => ?_)
  · exact g198_3 (C := C) hw p0 p1 p2 p3 q4 kx G1 sl M G3 kd cs u8 iso b148 s N (fun _ => (0 : Int32)) CW Fd O2 P5 Ou Oi Oa ne_cs_u8 ne_cs_iso Ecs O4 rG3 Os hh hcw hI hPN hN hM X A148 gb148 own_ok0
  · refine g_aload C at_183 (pc' := 185) rfl rfl rfl ?_
    refine g_iload C at_185 (pc' := 187) rfl rfl ?_
    refine g_iconst C (z := (1 : Int32)) at_187 (pc' := 188) rfl rfl ?_
    refine g_isub C at_188 (pc' := 189) rfl ?_
    rw [own_pred (own_nz1 q180 (by omega)) (by omega)]
    show Go w l _ n0 _ h148 1 128 189 #[.val (.int p0), .val (.int p1), .val (.int p2), .val (.int p3), .val (.long q4), .second, .val (.int kx), .val (.ref kd), .val (.int (3 : Int32)), .val (.int (125 : Int32)), .val (.int (Int32.ofNat N)), .val (.int (Int32.ofNat (125 - N))), .val (.int (Int32.ofNat s)), .val (.int (Int32.ofNat (s + 3))), .val (.int sl), .val (.int M), .val (.ref b148), .unset, .unset, .unset, .unset, .unset, .unset, .unset] [(.int (Int32.ofNat (s - 1))), (.ref b148)]
    refine g_lload C at_189 (pc' := 191) rfl rfl ?_
    refine g_ldc2J C (hw _ (List.mem_of_getElem? (i := 5) rfl)) at_191 (pc' := 194) rfl ?_
    refine g_land C at_194 (pc' := 195) rfl ?_
    refine g_l2i C at_195 (pc' := 196) rfl ?_
    refine g_i2b C at_196 (pc' := 197) rfl ?_
    refine g_bastore C A148 (n32_nn (by omega)) (n32_lt (n := 128) (by omega) (by omega)) at_197 (pc' := 198) rfl gb148 (fun h149 W150 A148' => ?_)
    have X := X.wr W150 gb148
    have A148 : Arf Z h149 b148 "[B" .byte (128 : Int32) (upd (fun j => .int ((fun _ => (0 : Int32)) j)) (Int32.ofNat (s - 1)).toNatClampNeg (.int (nar .byte (((q4 &&& (127 : Int64)).toInt32).toInt8.toInt32)))) := A148'
    have A148 : Arf Z h149 b148 "[B" .byte (128 : Int32) (fun j => .int ((own_w (fun _ => (0 : Int32)) (s - 1) (nar .byte (((q4 &&& (127 : Int64)).toInt32).toInt8.toInt32))) j)) := A148.congr fun j _ => own_wr (by omega) (nar .byte (((q4 &&& (127 : Int64)).toInt32).toInt8.toInt32)) j
    exact g198_3 (C := C) hw p0 p1 p2 p3 q4 kx G1 sl M G3 kd cs u8 iso b148 s N (own_w (fun _ => (0 : Int32)) (s - 1) (nar .byte (((q4 &&& (127 : Int64)).toInt32).toInt8.toInt32))) CW Fd O2 P5 Ou Oi Oa ne_cs_u8 ne_cs_iso Ecs O4 rG3 Os hh hcw hI hPN hN hM X A148 gb148 (own_okw own_ok0 (own_v7 _))
set_option maxRecDepth 65536 in
set_option maxHeartbeats 40000000 in
theorem g126_3 {l : Launch} {Z : State} {a0 : Array Value} (hw : ∀ d ∈ tables_1, d.before a0 Z = true) {w : Wk} {n0 : Nat} {h0 : Heap} {Y : State → Outcome → Prop} (p0 p1 p2 p3 : Int32) (q4 : Int64) (kx G1 : Int32) (G3 : Value) (kd cs u8 iso : Addr) (s N : Nat) (C : Cx w Z "com/example/longhaul/longhaul/FieldFormatReadPinLaw" code 24 (some .boolean) "law" room_1 n0 (fun v _ => v = some (.int 1)) Y) (CW : LvW w room_1 n0 (fun v _ => v = some (.int 1)) Y) (Fd : Fld Z Z.heap kd "com/example/longhaul/longhaul/Iso8583AsciiCodec$LengthKind" "digits" "I" (.int 3)) (O2 : Sta Z Z.heap "java/lang/String" "COMPACT_STRINGS" "Z" (.int G1)) (P5 : ¬ G1 = 0) (Ou : Sta Z Z.heap "sun/nio/cs/UTF_8" "INSTANCE" "Lsun/nio/cs/UTF_8;" (.ref u8)) (Oi : Sta Z Z.heap "sun/nio/cs/ISO_8859_1" "INSTANCE" "Lsun/nio/cs/ISO_8859_1;" (.ref iso)) (Oa : Sta Z Z.heap "sun/nio/cs/US_ASCII" "INSTANCE" "Lsun/nio/cs/US_ASCII;" (.ref cs)) (ne_cs_u8 : cs ≠ u8) (ne_cs_iso : cs ≠ iso) (Ecs : Exa Z Z.heap cs "sun/nio/cs/US_ASCII") (O4 : Sta Z Z.heap "jdk/internal/util/Preconditions" "SIOOBE_FORMATTER" "Ljava/util/function/BiFunction;" G3) (rG3 : G3.isRef = true) (Os : Sta Z Z.heap "java/nio/charset/StandardCharsets" "US_ASCII" "Ljava/nio/charset/Charset;" (.ref cs)) (hh : Jvm.Lit.constHeld Z "java/lang/String" 7) (hcw : Jvm.Lit.compactW.before a0 Z = true) (hI : w.s.vm.interned = Z.vm.interned) (hPN : (s + 3) + N ≤ 128) (hN : N ≤ 125) (hkx : ¬ kx = 0) (X : Old Z n0 h0) :
    Go w l room_1 n0 Y h0 0 0 126 #[.val (.int p0), .val (.int p1), .val (.int p2), .val (.int p3), .val (.long q4), .second, .val (.int kx), .val (.ref kd), .val (.int (3 : Int32)), .val (.int (125 : Int32)), .val (.int (Int32.ofNat N)), .val (.int (Int32.ofNat (125 - N))), .unset, .unset, .unset, .unset, .unset, .unset, .unset, .unset, .unset, .unset, .unset, .unset] [(.int (Int32.ofNat s))] := by
  refine g_istore C at_126 (pc' := 128) rfl (Ls' := #[.val (.int p0), .val (.int p1), .val (.int p2), .val (.int p3), .val (.long q4), .second, .val (.int kx), .val (.ref kd), .val (.int (3 : Int32)), .val (.int (125 : Int32)), .val (.int (Int32.ofNat N)), .val (.int (Int32.ofNat (125 - N))), .val (.int (Int32.ofNat s)), .unset, .unset, .unset, .unset, .unset, .unset, .unset, .unset, .unset, .unset, .unset]) rfl ?_
  refine g_iload C at_128 (pc' := 130) rfl rfl ?_
  refine g_iload C at_130 (pc' := 132) rfl rfl ?_
  refine g_iadd C at_132 (pc' := 133) rfl ?_
  rw [own_ix (K := (3 : Int32)) (k := 3) rfl]
  show Go w l _ n0 _ h0 0 0 133 #[.val (.int p0), .val (.int p1), .val (.int p2), .val (.int p3), .val (.long q4), .second, .val (.int kx), .val (.ref kd), .val (.int (3 : Int32)), .val (.int (125 : Int32)), .val (.int (Int32.ofNat N)), .val (.int (Int32.ofNat (125 - N))), .val (.int (Int32.ofNat s)), .unset, .unset, .unset, .unset, .unset, .unset, .unset, .unset, .unset, .unset, .unset] [(.int (Int32.ofNat (s + 3)))]
  refine g_istore C at_133 (pc' := 135) rfl (Ls' := #[.val (.int p0), .val (.int p1), .val (.int p2), .val (.int p3), .val (.long q4), .second, .val (.int kx), .val (.ref kd), .val (.int (3 : Int32)), .val (.int (125 : Int32)), .val (.int (Int32.ofNat N)), .val (.int (Int32.ofNat (125 - N))), .val (.int (Int32.ofNat s)), .val (.int (Int32.ofNat (s + 3))), .unset, .unset, .unset, .unset, .unset, .unset, .unset, .unset, .unset, .unset]) rfl ?_
  refine g_iloadN C at_135 (pc' := 136) rfl rfl ?_
  refine g_iconst C (z := (1 : Int32)) at_136 (pc' := 137) rfl rfl ?_
  refine g_iand C at_137 (pc' := 138) rfl ?_
  refine g_if_eq C at_138 (by decide) (pc' := 149) (by decide) (pcN := 141) rfl (fun q138 => ?_) (fun q138 => ?_)
  · refine g_iloadN C at_149 (pc' := 150) rfl rfl ?_
    refine g_iconst C (z := (2 : Int32)) at_150 (pc' := 151) rfl rfl ?_
    refine g_iushr C at_151 (pc' := 152) rfl ?_
    refine g_istore C at_152 (pc' := 154) rfl (Ls' := #[.val (.int p0), .val (.int p1), .val (.int p2), .val (.int p3), .val (.long q4), .second, .val (.int kx), .val (.ref kd), .val (.int (3 : Int32)), .val (.int (125 : Int32)), .val (.int (Int32.ofNat N)), .val (.int (Int32.ofNat (125 - N))), .val (.int (Int32.ofNat s)), .val (.int (Int32.ofNat (s + 3))), .val (.int ((p2.toUInt32 >>> ((2 : Int32) &&& 31).toUInt32).toInt32)), .unset, .unset, .unset, .unset, .unset, .unset, .unset, .unset, .unset]) rfl ?_
    refine g_iload C at_154 (pc' := 156) rfl rfl ?_
    refine g_if_ne C at_156 (by decide) (pc' := 164) (by decide) (pcN := 159) rfl (fun _ => ?_) (fun q => absurd q hkx)
    refine g_iload C at_164 (pc' := 166) rfl rfl ?_
    refine g_iload C at_166 (pc' := 168) rfl rfl ?_
    refine g_iadd C at_168 (pc' := 169) rfl ?_
    refine g_istore C at_169 (pc' := 171) rfl (Ls' := #[.val (.int p0), .val (.int p1), .val (.int p2), .val (.int p3), .val (.long q4), .second, .val (.int kx), .val (.ref kd), .val (.int (3 : Int32)), .val (.int (125 : Int32)), .val (.int (Int32.ofNat N)), .val (.int (Int32.ofNat (125 - N))), .val (.int (Int32.ofNat s)), .val (.int (Int32.ofNat (s + 3))), .val (.int ((p2.toUInt32 >>> ((2 : Int32) &&& 31).toUInt32).toInt32)), .val (.int ((Int32.ofNat N) + ((p2.toUInt32 >>> ((2 : Int32) &&& 31).toUInt32).toInt32))), .unset, .unset, .unset, .unset, .unset, .unset, .unset, .unset]) rfl ?_
    exact g171_3 (C := C) hw p0 p1 p2 p3 q4 kx G1 ((p2.toUInt32 >>> ((2 : Int32) &&& 31).toUInt32).toInt32) ((Int32.ofNat N) + ((p2.toUInt32 >>> ((2 : Int32) &&& 31).toUInt32).toInt32)) G3 kd cs u8 iso s N CW Fd O2 P5 Ou Oi Oa ne_cs_u8 ne_cs_iso Ecs O4 rG3 Os hh hcw hI hPN hN (own_hM (by omega) (own_sl2 p2)) X
  · refine g_iloadN C at_141 (pc' := 142) rfl rfl ?_
    refine g_iconst C (z := (1 : Int32)) at_142 (pc' := 143) rfl rfl ?_
    refine g_iushr C at_143 (pc' := 144) rfl ?_
    refine g_iconst C (z := (3 : Int32)) at_144 (pc' := 145) rfl rfl ?_
    refine g_iand C at_145 (pc' := 146) rfl ?_
    refine g_goto C at_146 (by decide) (pc' := 152) (by decide) ?_
    refine g_istore C at_152 (pc' := 154) rfl (Ls' := #[.val (.int p0), .val (.int p1), .val (.int p2), .val (.int p3), .val (.long q4), .second, .val (.int kx), .val (.ref kd), .val (.int (3 : Int32)), .val (.int (125 : Int32)), .val (.int (Int32.ofNat N)), .val (.int (Int32.ofNat (125 - N))), .val (.int (Int32.ofNat s)), .val (.int (Int32.ofNat (s + 3))), .val (.int (((p2.toUInt32 >>> ((1 : Int32) &&& 31).toUInt32).toInt32) &&& (3 : Int32))), .unset, .unset, .unset, .unset, .unset, .unset, .unset, .unset, .unset]) rfl ?_
    refine g_iload C at_154 (pc' := 156) rfl rfl ?_
    refine g_if_ne C at_156 (by decide) (pc' := 164) (by decide) (pcN := 159) rfl (fun _ => ?_) (fun q => absurd q hkx)
    refine g_iload C at_164 (pc' := 166) rfl rfl ?_
    refine g_iload C at_166 (pc' := 168) rfl rfl ?_
    refine g_iadd C at_168 (pc' := 169) rfl ?_
    refine g_istore C at_169 (pc' := 171) rfl (Ls' := #[.val (.int p0), .val (.int p1), .val (.int p2), .val (.int p3), .val (.long q4), .second, .val (.int kx), .val (.ref kd), .val (.int (3 : Int32)), .val (.int (125 : Int32)), .val (.int (Int32.ofNat N)), .val (.int (Int32.ofNat (125 - N))), .val (.int (Int32.ofNat s)), .val (.int (Int32.ofNat (s + 3))), .val (.int (((p2.toUInt32 >>> ((1 : Int32) &&& 31).toUInt32).toInt32) &&& (3 : Int32))), .val (.int ((Int32.ofNat N) + (((p2.toUInt32 >>> ((1 : Int32) &&& 31).toUInt32).toInt32) &&& (3 : Int32)))), .unset, .unset, .unset, .unset, .unset, .unset, .unset, .unset]) rfl ?_
    exact g171_3 (C := C) hw p0 p1 p2 p3 q4 kx G1 (((p2.toUInt32 >>> ((1 : Int32) &&& 31).toUInt32).toInt32) &&& (3 : Int32)) ((Int32.ofNat N) + (((p2.toUInt32 >>> ((1 : Int32) &&& 31).toUInt32).toInt32) &&& (3 : Int32))) G3 kd cs u8 iso s N CW Fd O2 P5 Ou Oi Oa ne_cs_u8 ne_cs_iso Ecs O4 rG3 Os hh hcw hI hPN hN (own_hM (by omega) (own_sl1 p2)) X
set_option maxRecDepth 65536 in
set_option maxHeartbeats 40000000 in
theorem law0 {l : Launch} {Z : State} {a0 : Array Value} (hw : ∀ d ∈ tables_1, d.before a0 Z = true) {h0 : Heap} {n0 : Nat} (p0 p1 p2 p3 : Int32) (q4 : Int64) (G1 : Int32) (G3 : Value) (t_FIXED t_LLVAR t_LLLVAR cs u8 iso : Addr) (S_FIXED : Sta Z Z.heap "com/example/longhaul/longhaul/Iso8583AsciiCodec$LengthKind" "FIXED" "Lcom/example/longhaul/longhaul/Iso8583AsciiCodec$LengthKind;" (.ref t_FIXED)) (F_FIXED_digits : Fld Z Z.heap t_FIXED "com/example/longhaul/longhaul/Iso8583AsciiCodec$LengthKind" "digits" "I" (.int 0)) (S_LLVAR : Sta Z Z.heap "com/example/longhaul/longhaul/Iso8583AsciiCodec$LengthKind" "LLVAR" "Lcom/example/longhaul/longhaul/Iso8583AsciiCodec$LengthKind;" (.ref t_LLVAR)) (F_LLVAR_digits : Fld Z Z.heap t_LLVAR "com/example/longhaul/longhaul/Iso8583AsciiCodec$LengthKind" "digits" "I" (.int 2)) (S_LLLVAR : Sta Z Z.heap "com/example/longhaul/longhaul/Iso8583AsciiCodec$LengthKind" "LLLVAR" "Lcom/example/longhaul/longhaul/Iso8583AsciiCodec$LengthKind;" (.ref t_LLLVAR)) (F_LLLVAR_digits : Fld Z Z.heap t_LLLVAR "com/example/longhaul/longhaul/Iso8583AsciiCodec$LengthKind" "digits" "I" (.int 3)) (O2 : Sta Z Z.heap "java/lang/String" "COMPACT_STRINGS" "Z" (.int G1)) (P5 : ¬ G1 = 0) (Ou : Sta Z Z.heap "sun/nio/cs/UTF_8" "INSTANCE" "Lsun/nio/cs/UTF_8;" (.ref u8)) (Oi : Sta Z Z.heap "sun/nio/cs/ISO_8859_1" "INSTANCE" "Lsun/nio/cs/ISO_8859_1;" (.ref iso)) (Oa : Sta Z Z.heap "sun/nio/cs/US_ASCII" "INSTANCE" "Lsun/nio/cs/US_ASCII;" (.ref cs)) (ne_cs_u8 : cs ≠ u8) (ne_cs_iso : cs ≠ iso) (Ecs : Exa Z Z.heap cs "sun/nio/cs/US_ASCII") (O4 : Sta Z Z.heap "jdk/internal/util/Preconditions" "SIOOBE_FORMATTER" "Ljava/util/function/BiFunction;" G3) (rG3 : G3.isRef = true) (Os : Sta Z Z.heap "java/nio/charset/StandardCharsets" "US_ASCII" "Ljava/nio/charset/Charset;" (.ref cs)) (hh : Jvm.Lit.constHeld Z "java/lang/String" 7) (hcw : Jvm.Lit.compactW.before a0 Z = true) (X : Old Z n0 h0) :
    MetWI l Z x code maxLocals ret room_1 n0 h0 #[(.int p0), (.int p1), (.int p2), (.int p3), (.long q4)] (fun v _ => v = some (.int 1)) := by
  refine MetWI.intro (plainFor_of_name (by first | (simp [plainName, overriddenIn, x]; done) | decide +kernel)) (fun mM => (show entryFrame mM #[(.int p0), (.int p1), (.int p2), (.int p3), (.long q4)] maxLocals = mkF mM 0 #[.val (.int p0), .val (.int p1), .val (.int p2), .val (.int p3), .val (.long q4), .second, .unset, .unset, .unset, .unset, .unset, .unset, .unset, .unset, .unset, .unset, .unset, .unset, .unset, .unset, .unset, .unset, .unset, .unset] [] from by first | (simp [entryFrame, mkF, argsToLocals, Value.category, maxLocals]; done))) (fun w Y C CW hH hI => ?_)
  have C : Cx w Z "com/example/longhaul/longhaul/FieldFormatReadPinLaw" code 24 (some .boolean) "law" room_1 n0 _ Y := C
  refine g_iloadN C at_0 (pc' := 1) rfl rfl ?_
  refine g_iconst C (z := (3 : Int32)) at_1 (pc' := 2) rfl rfl ?_
  refine g_iand C at_2 (pc' := 3) rfl ?_
  refine g_iconst C (z := (3 : Int32)) at_3 (pc' := 4) rfl rfl ?_
  refine g_irem C at_4 (pc' := 5) rfl (by decide) ?_
  refine g_istore C at_5 (pc' := 7) rfl (Ls' := #[.val (.int p0), .val (.int p1), .val (.int p2), .val (.int p3), .val (.long q4), .second, .val (.int ((p0 &&& (3 : Int32)) % (3 : Int32))), .unset, .unset, .unset, .unset, .unset, .unset, .unset, .unset, .unset, .unset, .unset, .unset, .unset, .unset, .unset, .unset, .unset]) rfl ?_
  refine g_iload C at_7 (pc' := 9) rfl rfl ?_
  refine g_if_ne C at_9 (by decide) (pc' := 18) (by decide) (pcN := 12) rfl (fun q9 => ?_) (fun q9 => ?_)
  · refine g_iload C at_18 (pc' := 20) rfl rfl ?_
    refine g_iconst C (z := (1 : Int32)) at_20 (pc' := 21) rfl rfl ?_
    refine g_icmp_ne C at_21 (by decide) (pc' := 30) (by decide) (pcN := 24) rfl (fun q21 => ?_) (fun q21 => ?_)
    · refine g_getS (host := "") C (Or.inl (hw _ (List.mem_of_getElem? (i := 126) rfl))) Via.refl (S_LLLVAR.ext X.2) at_30 (pc' := 33) rfl ?_
      refine g_astore C at_33 (pc' := 35) rfl rfl (Ls' := #[.val (.int p0), .val (.int p1), .val (.int p2), .val (.int p3), .val (.long q4), .second, .val (.int ((p0 &&& (3 : Int32)) % (3 : Int32))), .val (.ref t_LLLVAR), .unset, .unset, .unset, .unset, .unset, .unset, .unset, .unset, .unset, .unset, .unset, .unset, .unset, .unset, .unset, .unset]) rfl ?_
      refine g_iload C at_35 (pc' := 37) rfl rfl ?_
      refine g_if_ne C at_37 (by decide) (pc' := 44) (by decide) (pcN := 40) rfl (fun _ => ?_) (fun q => absurd q q9)
      refine g_iload C at_44 (pc' := 46) rfl rfl ?_
      refine g_iconst C (z := (1 : Int32)) at_46 (pc' := 47) rfl rfl ?_
      refine g_icmp_ne C at_47 (by decide) (pc' := 54) (by decide) (pcN := 50) rfl (fun _ => ?_) (fun q => absurd q q21)
      refine g_iconst C (z := (3 : Int32)) at_54 (pc' := 55) rfl rfl ?_
      refine g_istore C at_55 (pc' := 57) rfl (Ls' := #[.val (.int p0), .val (.int p1), .val (.int p2), .val (.int p3), .val (.long q4), .second, .val (.int ((p0 &&& (3 : Int32)) % (3 : Int32))), .val (.ref t_LLLVAR), .val (.int (3 : Int32)), .unset, .unset, .unset, .unset, .unset, .unset, .unset, .unset, .unset, .unset, .unset, .unset, .unset, .unset, .unset]) rfl ?_
      refine g_iload C at_57 (pc' := 59) rfl rfl ?_
      refine g_if_ne C at_59 (by decide) (pc' := 68) (by decide) (pcN := 62) rfl (fun _ => ?_) (fun q => absurd q q9)
      refine g_iload C at_68 (pc' := 70) rfl rfl ?_
      refine g_iconst C (z := (1 : Int32)) at_70 (pc' := 71) rfl rfl ?_
      refine g_icmp_ne C at_71 (by decide) (pc' := 79) (by decide) (pcN := 74) rfl (fun _ => ?_) (fun q => absurd q q21)
      refine g_bipush C (z := (125 : Int32)) at_79 (pc' := 81) rfl rfl ?_
      refine g_istore C at_81 (pc' := 83) rfl (Ls' := #[.val (.int p0), .val (.int p1), .val (.int p2), .val (.int p3), .val (.long q4), .second, .val (.int ((p0 &&& (3 : Int32)) % (3 : Int32))), .val (.ref t_LLLVAR), .val (.int (3 : Int32)), .val (.int (125 : Int32)), .unset, .unset, .unset, .unset, .unset, .unset, .unset, .unset, .unset, .unset, .unset, .unset, .unset, .unset]) rfl ?_
      refine g_iloadN C at_83 (pc' := 84) rfl rfl ?_
      refine g_ldcI C (hw _ (List.mem_of_getElem? (i := 3) rfl)) at_84 (pc' := 86) rfl ?_
      refine g_iand C at_86 (pc' := 87) rfl ?_
      refine g_iload C at_87 (pc' := 89) rfl rfl ?_
      refine g_iconst C (z := (1 : Int32)) at_89 (pc' := 90) rfl rfl ?_
      refine g_iadd C at_90 (pc' := 91) rfl ?_
      show Go w l _ n0 _ h0 0 0 91 #[.val (.int p0), .val (.int p1), .val (.int p2), .val (.int p3), .val (.long q4), .second, .val (.int ((p0 &&& (3 : Int32)) % (3 : Int32))), .val (.ref t_LLLVAR), .val (.int (3 : Int32)), .val (.int (125 : Int32)), .unset, .unset, .unset, .unset, .unset, .unset, .unset, .unset, .unset, .unset, .unset, .unset, .unset, .unset] [(.int (126 : Int32)), (.int (p1 &&& (2147483647 : Int32)))]
      refine g_irem C at_91 (pc' := 92) rfl (by decide) ?_
      obtain ⟨N, hN0, eN⟩ := own_len p1 (126 : Int32) 126 rfl (by decide) (by decide)
      have hN : N ≤ 125 := by omega
      rw [eN]
      show Go w l _ n0 _ h0 0 0 92 #[.val (.int p0), .val (.int p1), .val (.int p2), .val (.int p3), .val (.long q4), .second, .val (.int ((p0 &&& (3 : Int32)) % (3 : Int32))), .val (.ref t_LLLVAR), .val (.int (3 : Int32)), .val (.int (125 : Int32)), .unset, .unset, .unset, .unset, .unset, .unset, .unset, .unset, .unset, .unset, .unset, .unset, .unset, .unset] [(.int (Int32.ofNat N))]
      refine g_istore C at_92 (pc' := 94) rfl (Ls' := #[.val (.int p0), .val (.int p1), .val (.int p2), .val (.int p3), .val (.long q4), .second, .val (.int ((p0 &&& (3 : Int32)) % (3 : Int32))), .val (.ref t_LLLVAR), .val (.int (3 : Int32)), .val (.int (125 : Int32)), .val (.int (Int32.ofNat N)), .unset, .unset, .unset, .unset, .unset, .unset, .unset, .unset, .unset, .unset, .unset, .unset, .unset]) rfl ?_
      refine g_sipush C (z := (128 : Int32)) at_94 (pc' := 97) rfl rfl ?_
      refine g_iload C at_97 (pc' := 99) rfl rfl ?_
      refine g_isub C at_99 (pc' := 100) rfl ?_
      show Go w l _ n0 _ h0 0 0 100 #[.val (.int p0), .val (.int p1), .val (.int p2), .val (.int p3), .val (.long q4), .second, .val (.int ((p0 &&& (3 : Int32)) % (3 : Int32))), .val (.ref t_LLLVAR), .val (.int (3 : Int32)), .val (.int (125 : Int32)), .val (.int (Int32.ofNat N)), .unset, .unset, .unset, .unset, .unset, .unset, .unset, .unset, .unset, .unset, .unset, .unset, .unset] [(.int (125 : Int32))]
      refine g_iload C at_100 (pc' := 102) rfl rfl ?_
      refine g_isub C at_102 (pc' := 103) rfl ?_
      rw [own_subk (K := (125 : Int32)) (k := 125) rfl (by omega) (by decide)]
      show Go w l _ n0 _ h0 0 0 103 #[.val (.int p0), .val (.int p1), .val (.int p2), .val (.int p3), .val (.long q4), .second, .val (.int ((p0 &&& (3 : Int32)) % (3 : Int32))), .val (.ref t_LLLVAR), .val (.int (3 : Int32)), .val (.int (125 : Int32)), .val (.int (Int32.ofNat N)), .unset, .unset, .unset, .unset, .unset, .unset, .unset, .unset, .unset, .unset, .unset, .unset, .unset] [(.int (Int32.ofNat (125 - N)))]
      refine g_istore C at_103 (pc' := 105) rfl (Ls' := #[.val (.int p0), .val (.int p1), .val (.int p2), .val (.int p3), .val (.long q4), .second, .val (.int ((p0 &&& (3 : Int32)) % (3 : Int32))), .val (.ref t_LLLVAR), .val (.int (3 : Int32)), .val (.int (125 : Int32)), .val (.int (Int32.ofNat N)), .val (.int (Int32.ofNat (125 - N))), .unset, .unset, .unset, .unset, .unset, .unset, .unset, .unset, .unset, .unset, .unset, .unset]) rfl ?_
      refine g_iloadN C at_105 (pc' := 106) rfl rfl ?_
      refine g_iconst C (z := (2 : Int32)) at_106 (pc' := 107) rfl rfl ?_
      refine g_iushr C at_107 (pc' := 108) rfl ?_
      refine g_iconst C (z := (1 : Int32)) at_108 (pc' := 109) rfl rfl ?_
      refine g_iand C at_109 (pc' := 110) rfl ?_
      refine g_if_eq C at_110 (by decide) (pc' := 118) (by decide) (pcN := 113) rfl (fun q110 => ?_) (fun q110 => ?_)
      · refine g_iloadN C at_118 (pc' := 119) rfl rfl ?_
        refine g_iconst C (z := (3 : Int32)) at_119 (pc' := 120) rfl rfl ?_
        refine g_iushr C at_120 (pc' := 121) rfl ?_
        refine g_iload C at_121 (pc' := 123) rfl rfl ?_
        refine g_iconst C (z := (1 : Int32)) at_123 (pc' := 124) rfl rfl ?_
        refine g_iadd C at_124 (pc' := 125) rfl ?_
        refine g_irem C at_125 (pc' := 126) rfl (own_nz (by omega)) ?_
        exact (by
              obtain ⟨s, hs, es⟩ := own_rem p0 (r := 125 - N) (by omega)
              rw [es]
              exact g126_3 (C := C) hw p0 p1 p2 p3 q4 ((p0 &&& (3 : Int32)) % (3 : Int32)) G1 G3 t_LLLVAR cs u8 iso s N CW F_LLLVAR_digits O2 P5 Ou Oi Oa ne_cs_u8 ne_cs_iso Ecs O4 rG3 Os hh hcw hI (by omega) hN q9 X)
      · refine g_iload C at_113 (pc' := 115) rfl rfl ?_
        refine g_goto C at_115 (by decide) (pc' := 126) (by decide) ?_
        exact g126_3 (C := C) hw p0 p1 p2 p3 q4 ((p0 &&& (3 : Int32)) % (3 : Int32)) G1 G3 t_LLLVAR cs u8 iso (125 - N) N CW F_LLLVAR_digits O2 P5 Ou Oi Oa ne_cs_u8 ne_cs_iso Ecs O4 rG3 Os hh hcw hI (by omega) hN q9 X
    · refine g_getS (host := "") C (Or.inl (hw _ (List.mem_of_getElem? (i := 128) rfl))) Via.refl (S_LLVAR.ext X.2) at_24 (pc' := 27) rfl ?_
      refine g_goto C at_27 (by decide) (pc' := 33) (by decide) ?_
      refine g_astore C at_33 (pc' := 35) rfl rfl (Ls' := #[.val (.int p0), .val (.int p1), .val (.int p2), .val (.int p3), .val (.long q4), .second, .val (.int ((p0 &&& (3 : Int32)) % (3 : Int32))), .val (.ref t_LLVAR), .unset, .unset, .unset, .unset, .unset, .unset, .unset, .unset, .unset, .unset, .unset, .unset, .unset, .unset, .unset, .unset]) rfl ?_
      refine g_iload C at_35 (pc' := 37) rfl rfl ?_
      refine g_if_ne C at_37 (by decide) (pc' := 44) (by decide) (pcN := 40) rfl (fun _ => ?_) (fun q => absurd q q9)
      refine g_iload C at_44 (pc' := 46) rfl rfl ?_
      refine g_iconst C (z := (1 : Int32)) at_46 (pc' := 47) rfl rfl ?_
      refine g_icmp_ne C at_47 (by decide) (pc' := 54) (by decide) (pcN := 50) rfl (fun q => absurd q21 q) (fun _ => ?_)
      refine g_iconst C (z := (2 : Int32)) at_50 (pc' := 51) rfl rfl ?_
      refine g_goto C at_51 (by decide) (pc' := 55) (by decide) ?_
      refine g_istore C at_55 (pc' := 57) rfl (Ls' := #[.val (.int p0), .val (.int p1), .val (.int p2), .val (.int p3), .val (.long q4), .second, .val (.int ((p0 &&& (3 : Int32)) % (3 : Int32))), .val (.ref t_LLVAR), .val (.int (2 : Int32)), .unset, .unset, .unset, .unset, .unset, .unset, .unset, .unset, .unset, .unset, .unset, .unset, .unset, .unset, .unset]) rfl ?_
      refine g_iload C at_57 (pc' := 59) rfl rfl ?_
      refine g_if_ne C at_59 (by decide) (pc' := 68) (by decide) (pcN := 62) rfl (fun _ => ?_) (fun q => absurd q q9)
      refine g_iload C at_68 (pc' := 70) rfl rfl ?_
      refine g_iconst C (z := (1 : Int32)) at_70 (pc' := 71) rfl rfl ?_
      refine g_icmp_ne C at_71 (by decide) (pc' := 79) (by decide) (pcN := 74) rfl (fun q => absurd q21 q) (fun _ => ?_)
      refine g_bipush C (z := (99 : Int32)) at_74 (pc' := 76) rfl rfl ?_
      refine g_goto C at_76 (by decide) (pc' := 81) (by decide) ?_
      refine g_istore C at_81 (pc' := 83) rfl (Ls' := #[.val (.int p0), .val (.int p1), .val (.int p2), .val (.int p3), .val (.long q4), .second, .val (.int ((p0 &&& (3 : Int32)) % (3 : Int32))), .val (.ref t_LLVAR), .val (.int (2 : Int32)), .val (.int (99 : Int32)), .unset, .unset, .unset, .unset, .unset, .unset, .unset, .unset, .unset, .unset, .unset, .unset, .unset, .unset]) rfl ?_
      refine g_iloadN C at_83 (pc' := 84) rfl rfl ?_
      refine g_ldcI C (hw _ (List.mem_of_getElem? (i := 3) rfl)) at_84 (pc' := 86) rfl ?_
      refine g_iand C at_86 (pc' := 87) rfl ?_
      refine g_iload C at_87 (pc' := 89) rfl rfl ?_
      refine g_iconst C (z := (1 : Int32)) at_89 (pc' := 90) rfl rfl ?_
      refine g_iadd C at_90 (pc' := 91) rfl ?_
      show Go w l _ n0 _ h0 0 0 91 #[.val (.int p0), .val (.int p1), .val (.int p2), .val (.int p3), .val (.long q4), .second, .val (.int ((p0 &&& (3 : Int32)) % (3 : Int32))), .val (.ref t_LLVAR), .val (.int (2 : Int32)), .val (.int (99 : Int32)), .unset, .unset, .unset, .unset, .unset, .unset, .unset, .unset, .unset, .unset, .unset, .unset, .unset, .unset] [(.int (100 : Int32)), (.int (p1 &&& (2147483647 : Int32)))]
      refine g_irem C at_91 (pc' := 92) rfl (by decide) ?_
      obtain ⟨N, hN0, eN⟩ := own_len p1 (100 : Int32) 100 rfl (by decide) (by decide)
      have hN : N ≤ 99 := by omega
      rw [eN]
      show Go w l _ n0 _ h0 0 0 92 #[.val (.int p0), .val (.int p1), .val (.int p2), .val (.int p3), .val (.long q4), .second, .val (.int ((p0 &&& (3 : Int32)) % (3 : Int32))), .val (.ref t_LLVAR), .val (.int (2 : Int32)), .val (.int (99 : Int32)), .unset, .unset, .unset, .unset, .unset, .unset, .unset, .unset, .unset, .unset, .unset, .unset, .unset, .unset] [(.int (Int32.ofNat N))]
      refine g_istore C at_92 (pc' := 94) rfl (Ls' := #[.val (.int p0), .val (.int p1), .val (.int p2), .val (.int p3), .val (.long q4), .second, .val (.int ((p0 &&& (3 : Int32)) % (3 : Int32))), .val (.ref t_LLVAR), .val (.int (2 : Int32)), .val (.int (99 : Int32)), .val (.int (Int32.ofNat N)), .unset, .unset, .unset, .unset, .unset, .unset, .unset, .unset, .unset, .unset, .unset, .unset, .unset]) rfl ?_
      refine g_sipush C (z := (128 : Int32)) at_94 (pc' := 97) rfl rfl ?_
      refine g_iload C at_97 (pc' := 99) rfl rfl ?_
      refine g_isub C at_99 (pc' := 100) rfl ?_
      show Go w l _ n0 _ h0 0 0 100 #[.val (.int p0), .val (.int p1), .val (.int p2), .val (.int p3), .val (.long q4), .second, .val (.int ((p0 &&& (3 : Int32)) % (3 : Int32))), .val (.ref t_LLVAR), .val (.int (2 : Int32)), .val (.int (99 : Int32)), .val (.int (Int32.ofNat N)), .unset, .unset, .unset, .unset, .unset, .unset, .unset, .unset, .unset, .unset, .unset, .unset, .unset] [(.int (126 : Int32))]
      refine g_iload C at_100 (pc' := 102) rfl rfl ?_
      refine g_isub C at_102 (pc' := 103) rfl ?_
      rw [own_subk (K := (126 : Int32)) (k := 126) rfl (by omega) (by decide)]
      show Go w l _ n0 _ h0 0 0 103 #[.val (.int p0), .val (.int p1), .val (.int p2), .val (.int p3), .val (.long q4), .second, .val (.int ((p0 &&& (3 : Int32)) % (3 : Int32))), .val (.ref t_LLVAR), .val (.int (2 : Int32)), .val (.int (99 : Int32)), .val (.int (Int32.ofNat N)), .unset, .unset, .unset, .unset, .unset, .unset, .unset, .unset, .unset, .unset, .unset, .unset, .unset] [(.int (Int32.ofNat (126 - N)))]
      refine g_istore C at_103 (pc' := 105) rfl (Ls' := #[.val (.int p0), .val (.int p1), .val (.int p2), .val (.int p3), .val (.long q4), .second, .val (.int ((p0 &&& (3 : Int32)) % (3 : Int32))), .val (.ref t_LLVAR), .val (.int (2 : Int32)), .val (.int (99 : Int32)), .val (.int (Int32.ofNat N)), .val (.int (Int32.ofNat (126 - N))), .unset, .unset, .unset, .unset, .unset, .unset, .unset, .unset, .unset, .unset, .unset, .unset]) rfl ?_
      refine g_iloadN C at_105 (pc' := 106) rfl rfl ?_
      refine g_iconst C (z := (2 : Int32)) at_106 (pc' := 107) rfl rfl ?_
      refine g_iushr C at_107 (pc' := 108) rfl ?_
      refine g_iconst C (z := (1 : Int32)) at_108 (pc' := 109) rfl rfl ?_
      refine g_iand C at_109 (pc' := 110) rfl ?_
      refine g_if_eq C at_110 (by decide) (pc' := 118) (by decide) (pcN := 113) rfl (fun q110 => ?_) (fun q110 => ?_)
      · refine g_iloadN C at_118 (pc' := 119) rfl rfl ?_
        refine g_iconst C (z := (3 : Int32)) at_119 (pc' := 120) rfl rfl ?_
        refine g_iushr C at_120 (pc' := 121) rfl ?_
        refine g_iload C at_121 (pc' := 123) rfl rfl ?_
        refine g_iconst C (z := (1 : Int32)) at_123 (pc' := 124) rfl rfl ?_
        refine g_iadd C at_124 (pc' := 125) rfl ?_
        refine g_irem C at_125 (pc' := 126) rfl (own_nz (by omega)) ?_
        exact (by
              obtain ⟨s, hs, es⟩ := own_rem p0 (r := 126 - N) (by omega)
              rw [es]
              exact g126_2 (C := C) hw p0 p1 p2 p3 q4 ((p0 &&& (3 : Int32)) % (3 : Int32)) G1 G3 t_LLVAR cs u8 iso s N CW F_LLVAR_digits O2 P5 Ou Oi Oa ne_cs_u8 ne_cs_iso Ecs O4 rG3 Os hh hcw hI (by omega) hN q9 X)
      · refine g_iload C at_113 (pc' := 115) rfl rfl ?_
        refine g_goto C at_115 (by decide) (pc' := 126) (by decide) ?_
        exact g126_2 (C := C) hw p0 p1 p2 p3 q4 ((p0 &&& (3 : Int32)) % (3 : Int32)) G1 G3 t_LLVAR cs u8 iso (126 - N) N CW F_LLVAR_digits O2 P5 Ou Oi Oa ne_cs_u8 ne_cs_iso Ecs O4 rG3 Os hh hcw hI (by omega) hN q9 X
  · refine g_getS (host := "") C (Or.inl (hw _ (List.mem_of_getElem? (i := 0) rfl))) Via.refl (S_FIXED.ext X.2) at_12 (pc' := 15) rfl ?_
    refine g_goto C at_15 (by decide) (pc' := 33) (by decide) ?_
    refine g_astore C at_33 (pc' := 35) rfl rfl (Ls' := #[.val (.int p0), .val (.int p1), .val (.int p2), .val (.int p3), .val (.long q4), .second, .val (.int ((p0 &&& (3 : Int32)) % (3 : Int32))), .val (.ref t_FIXED), .unset, .unset, .unset, .unset, .unset, .unset, .unset, .unset, .unset, .unset, .unset, .unset, .unset, .unset, .unset, .unset]) rfl ?_
    refine g_iload C at_35 (pc' := 37) rfl rfl ?_
    refine g_if_ne C at_37 (by decide) (pc' := 44) (by decide) (pcN := 40) rfl (fun q => absurd q9 q) (fun _ => ?_)
    refine g_iconst C (z := (0 : Int32)) at_40 (pc' := 41) rfl rfl ?_
    refine g_goto C at_41 (by decide) (pc' := 55) (by decide) ?_
    refine g_istore C at_55 (pc' := 57) rfl (Ls' := #[.val (.int p0), .val (.int p1), .val (.int p2), .val (.int p3), .val (.long q4), .second, .val (.int ((p0 &&& (3 : Int32)) % (3 : Int32))), .val (.ref t_FIXED), .val (.int (0 : Int32)), .unset, .unset, .unset, .unset, .unset, .unset, .unset, .unset, .unset, .unset, .unset, .unset, .unset, .unset, .unset]) rfl ?_
    refine g_iload C at_57 (pc' := 59) rfl rfl ?_
    refine g_if_ne C at_59 (by decide) (pc' := 68) (by decide) (pcN := 62) rfl (fun q => absurd q9 q) (fun _ => ?_)
    refine g_sipush C (z := (128 : Int32)) at_62 (pc' := 65) rfl rfl ?_
    refine g_goto C at_65 (by decide) (pc' := 81) (by decide) ?_
    refine g_istore C at_81 (pc' := 83) rfl (Ls' := #[.val (.int p0), .val (.int p1), .val (.int p2), .val (.int p3), .val (.long q4), .second, .val (.int ((p0 &&& (3 : Int32)) % (3 : Int32))), .val (.ref t_FIXED), .val (.int (0 : Int32)), .val (.int (128 : Int32)), .unset, .unset, .unset, .unset, .unset, .unset, .unset, .unset, .unset, .unset, .unset, .unset, .unset, .unset]) rfl ?_
    refine g_iloadN C at_83 (pc' := 84) rfl rfl ?_
    refine g_ldcI C (hw _ (List.mem_of_getElem? (i := 3) rfl)) at_84 (pc' := 86) rfl ?_
    refine g_iand C at_86 (pc' := 87) rfl ?_
    refine g_iload C at_87 (pc' := 89) rfl rfl ?_
    refine g_iconst C (z := (1 : Int32)) at_89 (pc' := 90) rfl rfl ?_
    refine g_iadd C at_90 (pc' := 91) rfl ?_
    show Go w l _ n0 _ h0 0 0 91 #[.val (.int p0), .val (.int p1), .val (.int p2), .val (.int p3), .val (.long q4), .second, .val (.int ((p0 &&& (3 : Int32)) % (3 : Int32))), .val (.ref t_FIXED), .val (.int (0 : Int32)), .val (.int (128 : Int32)), .unset, .unset, .unset, .unset, .unset, .unset, .unset, .unset, .unset, .unset, .unset, .unset, .unset, .unset] [(.int (129 : Int32)), (.int (p1 &&& (2147483647 : Int32)))]
    refine g_irem C at_91 (pc' := 92) rfl (by decide) ?_
    obtain ⟨N, hN0, eN⟩ := own_len p1 (129 : Int32) 129 rfl (by decide) (by decide)
    have hN : N ≤ 128 := by omega
    rw [eN]
    show Go w l _ n0 _ h0 0 0 92 #[.val (.int p0), .val (.int p1), .val (.int p2), .val (.int p3), .val (.long q4), .second, .val (.int ((p0 &&& (3 : Int32)) % (3 : Int32))), .val (.ref t_FIXED), .val (.int (0 : Int32)), .val (.int (128 : Int32)), .unset, .unset, .unset, .unset, .unset, .unset, .unset, .unset, .unset, .unset, .unset, .unset, .unset, .unset] [(.int (Int32.ofNat N))]
    refine g_istore C at_92 (pc' := 94) rfl (Ls' := #[.val (.int p0), .val (.int p1), .val (.int p2), .val (.int p3), .val (.long q4), .second, .val (.int ((p0 &&& (3 : Int32)) % (3 : Int32))), .val (.ref t_FIXED), .val (.int (0 : Int32)), .val (.int (128 : Int32)), .val (.int (Int32.ofNat N)), .unset, .unset, .unset, .unset, .unset, .unset, .unset, .unset, .unset, .unset, .unset, .unset, .unset]) rfl ?_
    refine g_sipush C (z := (128 : Int32)) at_94 (pc' := 97) rfl rfl ?_
    refine g_iload C at_97 (pc' := 99) rfl rfl ?_
    refine g_isub C at_99 (pc' := 100) rfl ?_
    show Go w l _ n0 _ h0 0 0 100 #[.val (.int p0), .val (.int p1), .val (.int p2), .val (.int p3), .val (.long q4), .second, .val (.int ((p0 &&& (3 : Int32)) % (3 : Int32))), .val (.ref t_FIXED), .val (.int (0 : Int32)), .val (.int (128 : Int32)), .val (.int (Int32.ofNat N)), .unset, .unset, .unset, .unset, .unset, .unset, .unset, .unset, .unset, .unset, .unset, .unset, .unset] [(.int (128 : Int32))]
    refine g_iload C at_100 (pc' := 102) rfl rfl ?_
    refine g_isub C at_102 (pc' := 103) rfl ?_
    rw [own_subk (K := (128 : Int32)) (k := 128) rfl (by omega) (by decide)]
    show Go w l _ n0 _ h0 0 0 103 #[.val (.int p0), .val (.int p1), .val (.int p2), .val (.int p3), .val (.long q4), .second, .val (.int ((p0 &&& (3 : Int32)) % (3 : Int32))), .val (.ref t_FIXED), .val (.int (0 : Int32)), .val (.int (128 : Int32)), .val (.int (Int32.ofNat N)), .unset, .unset, .unset, .unset, .unset, .unset, .unset, .unset, .unset, .unset, .unset, .unset, .unset] [(.int (Int32.ofNat (128 - N)))]
    refine g_istore C at_103 (pc' := 105) rfl (Ls' := #[.val (.int p0), .val (.int p1), .val (.int p2), .val (.int p3), .val (.long q4), .second, .val (.int ((p0 &&& (3 : Int32)) % (3 : Int32))), .val (.ref t_FIXED), .val (.int (0 : Int32)), .val (.int (128 : Int32)), .val (.int (Int32.ofNat N)), .val (.int (Int32.ofNat (128 - N))), .unset, .unset, .unset, .unset, .unset, .unset, .unset, .unset, .unset, .unset, .unset, .unset]) rfl ?_
    refine g_iloadN C at_105 (pc' := 106) rfl rfl ?_
    refine g_iconst C (z := (2 : Int32)) at_106 (pc' := 107) rfl rfl ?_
    refine g_iushr C at_107 (pc' := 108) rfl ?_
    refine g_iconst C (z := (1 : Int32)) at_108 (pc' := 109) rfl rfl ?_
    refine g_iand C at_109 (pc' := 110) rfl ?_
    refine g_if_eq C at_110 (by decide) (pc' := 118) (by decide) (pcN := 113) rfl (fun q110 => ?_) (fun q110 => ?_)
    · refine g_iloadN C at_118 (pc' := 119) rfl rfl ?_
      refine g_iconst C (z := (3 : Int32)) at_119 (pc' := 120) rfl rfl ?_
      refine g_iushr C at_120 (pc' := 121) rfl ?_
      refine g_iload C at_121 (pc' := 123) rfl rfl ?_
      refine g_iconst C (z := (1 : Int32)) at_123 (pc' := 124) rfl rfl ?_
      refine g_iadd C at_124 (pc' := 125) rfl ?_
      refine g_irem C at_125 (pc' := 126) rfl (own_nz (by omega)) ?_
      exact (by
            obtain ⟨s, hs, es⟩ := own_rem p0 (r := 128 - N) (by omega)
            rw [es]
            exact g126_0 (C := C) hw p0 p1 p2 p3 q4 ((p0 &&& (3 : Int32)) % (3 : Int32)) G1 G3 t_FIXED cs u8 iso s N CW F_FIXED_digits O2 P5 Ou Oi Oa ne_cs_u8 ne_cs_iso Ecs O4 rG3 Os hh hcw hI (by omega) hN q9 X)
    · refine g_iload C at_113 (pc' := 115) rfl rfl ?_
      refine g_goto C at_115 (by decide) (pc' := 126) (by decide) ?_
      exact g126_0 (C := C) hw p0 p1 p2 p3 q4 ((p0 &&& (3 : Int32)) % (3 : Int32)) G1 G3 t_FIXED cs u8 iso (128 - N) N CW F_FIXED_digits O2 P5 Ou Oi Oa ne_cs_u8 ne_cs_iso Ecs O4 rG3 Os hh hcw hI (by omega) hN q9 X
theorem own_eqr {t u : Term} {s : State} {args : Array Value} {a : Addr} (ht : t.eval args s none [] s = some (.ref a)) (q : (Jvm.Cond.eq t u).value args s none s [] = some true) : u.eval args s none [] s = some (.ref a) := by
  simp only [Jvm.Cond.value, ht] at q
  cases hf : u.eval args s none [] s with
  | none => simp [hf] at q
  | some y => rw [hf] at q; cases y <;> simp at q ⊢; exact q.symm
set_option maxRecDepth 65536 in
set_option maxHeartbeats 40000000 in
theorem comes_1 {Post : Tables → Env → Array Value → State → Outcome → State → Prop} (hpost : ∀ tb e args s v u, (limb_1_1.after args s (.returned v) u = true ∧ limb_1_2.after args s (.returned v) u = true ∧ True) → ReturnedEndW s (.returned v) u (Jvm.fieldLocs frame_1_writes args s ++ Jvm.arrayLocs frame_1_arrays args s ++ Jvm.staticLocs frame_1_statics s) 24 1664 → Post tb e args s (.returned v) u) :
    ArmFor flags0 classFile x code maxLocals ret World_1 tables_1 room_1 Calls_1 rest_1 Pre_1 Post := by
  intro l hfl _ _ p e ha hc hk s m args below hf hA hF happ hP
  obtain ⟨hcalls, hrest, hpre⟩ := hP
  obtain ⟨-, -, -, hnamed, -, -, -, hat⟩ := (Spec.applies_iff hf).mp happ
  obtain ⟨hg, hn⟩ := and_e (Cond.before_iff.mp (show (Jvm.Cond.and given_1 narrow_1).before args s = true from hpre))
  obtain ⟨g0, r0⟩ := and_e hg
  obtain ⟨g1, r1⟩ := and_e r0
  obtain ⟨g2, r2⟩ := and_e r1
  obtain ⟨g3, r3⟩ := and_e r2
  obtain ⟨g4, r4⟩ := and_e r3
  have g5 := r4
  obtain ⟨w0, w1, w2, w3, w4, rfl⟩ : ∃ w0 w1 w2 w3 w4 : Value, args = #[w0, w1, w2, w3, w4] := by
    have hs : args.size = 5 := by simpa [Cond.value, given_1] using g0
    obtain ⟨L⟩ := args
    match L, hs with
    | [w0, w1, w2, w3, w4], _ => exact ⟨w0, w1, w2, w3, w4, rfl⟩
  have hw := fun d (hd : d ∈ tables_1) => atoms_spec (ws := Jvm.Cond.code x code maxLocals ret :: tables_1) hat d (List.mem_cons_of_mem _ hd)
  have hfit : Fit s := fun {y c} hc i hi => by
    obtain ⟨ha, rfl⟩ := Array.getElem?_eq_some_iff.mp hc
    have q := List.all_eq_true.mp ((Array.all_eq_true_iff_forall_mem.mp hF) _ (Array.getElem_mem ha)) i (List.mem_range.mpr hi)
    simpa [Array.getElem?_eq_getElem hi] using q
  obtain ⟨i0, ei0⟩ := is_v g1
  obtain rfl : w0 = (.int i0) := Option.some.inj ei0
  obtain ⟨i1, ei1⟩ := is_v g2
  obtain rfl : w1 = (.int i1) := Option.some.inj ei1
  obtain ⟨i2, ei2⟩ := is_v g3
  obtain rfl : w2 = (.int i2) := Option.some.inj ei2
  obtain ⟨i3, ei3⟩ := is_v g4
  obtain rfl : w3 = (.int i3) := Option.some.inj ei3
  obtain ⟨i4, ei4⟩ := isL_v g5
  obtain rfl : w4 = (.long i4) := Option.some.inj ei4
  obtain ⟨hsets, hown0⟩ := atoms_of _ (rest_1_c_eq ▸ (show rest_1_c.before _ s = true from hrest))
  have n3 := not_v (Cond.before_iff.mp (hsets _ (List.mem_of_getElem? (i := 8) rfl)))
  obtain ⟨G1, eG1⟩ := is_v (Cond.before_iff.mp (hsets _ (List.mem_of_getElem? (i := 7) rfl)))
  have O2 : Sta s s.heap "java/lang/String" "COMPACT_STRINGS" "Z" (.int G1) := Sta.start eG1 (Or.inl (hsets _ (List.mem_of_getElem? (i := 6) rfl)))
  have P5 : ¬ (G1 = (0 : Int32)) := gotF (Cond.eq_ints eG1 (Term.int_eval (0))) n3
  obtain ⟨G3, eG3, rG3⟩ := isR_v (Cond.before_iff.mp (hsets _ (List.mem_of_getElem? (i := 14) rfl)))
  have O4 : Sta s s.heap "jdk/internal/util/Preconditions" "SIOOBE_FORMATTER" "Ljava/util/function/BiFunction;" G3 := Sta.start eG3 (Or.inl (hsets _ (List.mem_of_getElem? (i := 13) rfl)))
  obtain ⟨c0, u0⟩ := and_e hn
  obtain ⟨c1, u1⟩ := and_e u0
  obtain ⟨c2, u2⟩ := and_e u1
  obtain ⟨c3, u3⟩ := and_e u2
  obtain ⟨c4, u4⟩ := and_e u3
  have c5 := u4
  obtain ⟨t_FIXED, ev_FIXED⟩ := exa_v c0
  have S_FIXED := Sta.start ev_FIXED (Or.inr ⟨(hw _ (List.mem_of_getElem? (i := 1) rfl)), (hw _ (List.mem_of_getElem? (i := 2) rfl))⟩)
  have E_FIXED := Exa.start ev_FIXED c0
  have F_FIXED_digits := own_fld ev_FIXED c1
  obtain ⟨t_LLLVAR, ev_LLLVAR⟩ := exa_v c2
  have S_LLLVAR := Sta.start ev_LLLVAR (Or.inr ⟨(hw _ (List.mem_of_getElem? (i := 1) rfl)), (hw _ (List.mem_of_getElem? (i := 127) rfl))⟩)
  have E_LLLVAR := Exa.start ev_LLLVAR c2
  have F_LLLVAR_digits := own_fld ev_LLLVAR c3
  obtain ⟨t_LLVAR, ev_LLVAR⟩ := exa_v c4
  have S_LLVAR := Sta.start ev_LLVAR (Or.inr ⟨(hw _ (List.mem_of_getElem? (i := 1) rfl)), (hw _ (List.mem_of_getElem? (i := 129) rfl))⟩)
  have E_LLVAR := Exa.start ev_LLVAR c4
  have F_LLVAR_digits := own_fld ev_LLVAR c5
  obtain ⟨cs, ev_cs⟩ := exa_v (Cond.before_iff.mp (hsets _ (List.mem_of_getElem? (i := 5) rfl)))
  have Ecs := Exa.start ev_cs (Cond.before_iff.mp (hsets _ (List.mem_of_getElem? (i := 5) rfl)))
  have Os : Sta s s.heap "java/nio/charset/StandardCharsets" "US_ASCII" "Ljava/nio/charset/Charset;" (.ref cs) := Sta.start ev_cs (Or.inl (hsets _ (List.mem_of_getElem? (i := 1) rfl)))
  have ev_ca := own_eqr ev_cs (Cond.before_iff.mp (hsets _ (List.mem_of_getElem? (i := 4) rfl)))
  have Oa : Sta s s.heap "sun/nio/cs/US_ASCII" "INSTANCE" "Lsun/nio/cs/US_ASCII;" (.ref cs) := Sta.start ev_ca (Or.inl (hsets _ (List.mem_of_getElem? (i := 3) rfl)))
  obtain ⟨u8, ev_u8⟩ := exa_v (Cond.before_iff.mp (hsets _ (List.mem_of_getElem? (i := 17) rfl)))
  have E_u8 := Exa.start ev_u8 (Cond.before_iff.mp (hsets _ (List.mem_of_getElem? (i := 17) rfl)))
  have O_u8 : Sta s s.heap "sun/nio/cs/UTF_8" "INSTANCE" "Lsun/nio/cs/UTF_8;" (.ref u8) := Sta.start ev_u8 (Or.inl (hsets _ (List.mem_of_getElem? (i := 16) rfl)))
  obtain ⟨iso, ev_iso⟩ := exa_v (Cond.before_iff.mp (hsets _ (List.mem_of_getElem? (i := 20) rfl)))
  have E_iso := Exa.start ev_iso (Cond.before_iff.mp (hsets _ (List.mem_of_getElem? (i := 20) rfl)))
  have O_iso : Sta s s.heap "sun/nio/cs/ISO_8859_1" "INSTANCE" "Lsun/nio/cs/ISO_8859_1;" (.ref iso) := Sta.start ev_iso (Or.inl (hsets _ (List.mem_of_getElem? (i := 19) rfl)))
  obtain ⟨n, o, h1, h2, h3, _, L, rfl, ⟨rfl, N, -⟩, hq⟩ := law0 (l := l) (Z := s) hw (h0 := s.heap) (n0 := s.heap.size) i0 i1 i2 i3 i4 G1 G3 t_FIXED t_LLVAR t_LLLVAR cs u8 iso S_FIXED F_FIXED_digits S_LLVAR F_LLVAR_digits S_LLLVAR F_LLLVAR_digits O2 P5 O_u8 O_iso Oa (Exa.ne Ecs E_u8 (by decide)) (Exa.ne Ecs E_iso (by decide)) Ecs O4 rG3 Os (hcalls.1 ("java/lang/String", 7) (List.mem_cons_self ..)) (hsets _ (List.mem_of_getElem? (i := 8) rfl)) (Old.start s) (Nat.le_refl _) tables_1 p e ha hc hk s m _ below hf ((Spec.applies_iff_loose hf).mp happ).1 ⟨rfl, State.Warmed39.refl s, rfl, rfl⟩ trivial
  exact ⟨n, _, h1, h2, h3, hpost _ _ _ _ _ _ ⟨Cond.after_iff.mpr rfl, Cond.after_iff.mpr (eq_i res_at (Term.int_eval (1)) rfl), trivial⟩ ⟨hq.1, hq.2.1, hq.2.2.1, (hq.2.2.2.sift fun y hy => Or.inr (N y hy)).mono (by decide) (by decide)⟩⟩
theorem main_1_1 : Claimed_1_1 := comes_1 fun _ _ _ _ _ _ h hF => ⟨h.1, hF⟩
theorem main_1_2 : Claimed_1_2 := comes_1 fun _ _ _ _ _ _ h hF => ⟨h.2.1, hF⟩
end Jvm.Pilot.@@N@@
namespace Jvm.Pilot.@@N@@
open Jvm Jvm.ClassFile Sem Op Lib Jvm.Free Jvm.Stand Jvm.Pilot.@@N@@.Jvm.D
/-! MADE BY PROGRAM (witnessworld.py) out of the Statement's table words and the real class files: 33 classes; the members and pool entries that the words name. The judged class is class 1, her method 1. -/
namespace start1
open Jvm.ClassFile
def u (s : String) : CpInfo := .utf8 (stringToUtf16 s)
/-- a pool by its gaps: so many unusable entries, then the entry; so many at the end -/
def gap : Nat → List CpInfo → List CpInfo
  | 0, r => r
  | n + 1, r => .unusable :: gap n r
def poolList (es : List (Nat × CpInfo)) (last : Nat) : List CpInfo := es.foldr (fun e r => gap e.1 (e.2 :: r)) (gap last [])
def pool (es : List (Nat × CpInfo)) (last : Nat) : Array CpInfo := ⟨poolList es last⟩
def fileOf (pool : Array CpInfo) (this : Nat) (attrs : Array Attribute := #[]) (ms : Array MethodInfo := #[]) (fl : Nat := 33) (sup : Nat := 0) (ifs : Array Nat := #[]) (fds : Array FieldInfo := #[]) : ClassFile where
  minorVersion := 0
  majorVersion := 65
  constantPool := pool
  accessFlags := fl
  thisClass := this
  superClass := sup
  interfaces := ifs
  fields := fds
  methods := ms
  attributes := attrs
def plain (name : String) (sup : Option ClassId) : Class where
  name := name
  kind := .ordinary
  loader := none
  accessFlags := 33
  super := sup
  interfaces := #[]
  cf := none
  fields := #[]
  methods := #[]
  instanceTypes := #[]
  staticTypes := #[]
  resolved := #[]
  callSites := []
  init := .initialized
  statics := none
  mirror := none

def pool0 : Array CpInfo := pool [(5, u "<init>"), (0, u "()V"), (1, .class_ 10), (1, u "java/lang/Object"), (85, u "clone"), (0, u "()Ljava/lang/Object;")] 26

def k0c0 : Code := { maxStack := 0, maxLocals := 1, code := object_method_1_code, exceptionTable := #[], attributes := #[] }
def k0m0 : Method := { name := "<init>", desc := "()V", sig := { parameters := [], returnType := none }, accessFlags := 1, code := some k0c0 }
def k0m1 : Method := { name := "clone", desc := "()Ljava/lang/Object;", sig := { parameters := [], returnType := some (.object "java/lang/Object") }, accessFlags := 260, code := none }
/-- java/lang/Object -/
def k0 : Class := { plain "java/lang/Object" none with
  accessFlags := 33
  interfaces := #[]
  cf := some (fileOf pool0 8 #[] #[{ accessFlags := 1, nameIndex := 5, descriptorIndex := 6, attributes := #[] }, { accessFlags := 260, nameIndex := 96, descriptorIndex := 97, attributes := #[] }] 33 0 #[] #[])
  fields := #[]
  methods := #[k0m0, k0m1]
  instanceTypes := #[]
  staticTypes := #[]
  resolved := Array.replicate 124 none
  statics := none }

def pool1 : Array CpInfo := pool [(2, .class_ 4), (1, u "java/lang/Object"), (0, u "<init>"), (0, u "()V"), (0, .fieldref 8 9), (0, .class_ 10), (0, .nameAndType 11 12), (0, u "com/example/longhaul/longhaul/Iso8583AsciiCodec$LengthKind"), (0, u "FIXED"), (0, u "Lcom/example/longhaul/longhaul/Iso8583AsciiCodec$LengthKind;"), (0, .fieldref 8 14), (0, .nameAndType 15 12), (0, u "LLVAR"), (0, .fieldref 8 17), (0, .nameAndType 18 12), (0, u "LLLVAR"), (0, .integer 2147483647), (0, .long 127), (1, .class_ 23), (0, u "java/lang/String"), (0, .class_ 25), (0, u "com/example/longhaul/longhaul/Iso8583AsciiCodec$FieldFormat"), (0, .methodref 24 27), (0, .nameAndType 5 28), (0, u "(Lcom/example/longhaul/longhaul/Iso8583AsciiCodec$LengthKind;I)V"), (0, .methodref 24 30), (0, .nameAndType 31 32), (0, u "read"), (0, u "(I[BI[Ljava/lang/String;I)I"), (0, .methodref 22 34), (0, .nameAndType 35 36), (0, u "length"), (0, u "()I"), (0, .methodref 22 38), (0, .nameAndType 39 40), (0, u "charAt"), (0, u "(I)C"), (0, .class_ 42), (0, u "com/example/longhaul/longhaul/FieldFormatReadPinLaw"), (2, u "law"), (0, u "(IIIIJ)Z")] 12

def k1m0 : Method := { name := "<init>", desc := "()V", sig := { parameters := [], returnType := none }, accessFlags := 1, code := none }
def k1c1 : Code := { maxStack := 6, maxLocals := 24, code := code, exceptionTable := #[], attributes := #[] }
def k1m1 : Method := { name := "law", desc := "(IIIIJ)Z", sig := { parameters := [.int, .int, .int, .int, .long], returnType := some .boolean }, accessFlags := 9, code := some k1c1 }
/-- com/example/longhaul/longhaul/FieldFormatReadPinLaw -/
def k1 : Class := { plain "com/example/longhaul/longhaul/FieldFormatReadPinLaw" (some 0) with
  accessFlags := 49
  interfaces := #[]
  cf := some (fileOf pool1 41 #[] #[{ accessFlags := 1, nameIndex := 5, descriptorIndex := 6, attributes := #[] }, { accessFlags := 9, nameIndex := 45, descriptorIndex := 46, attributes := #[] }] 49 2 #[] #[])
  fields := #[]
  methods := #[k1m0, k1m1]
  instanceTypes := #[]
  staticTypes := #[]
  resolved := Array.replicate 59 none
  statics := none }

def pool2 : Array CpInfo := pool [(1, .class_ 2), (0, u "java/lang/constant/Constable"), (0, .class_ 4), (0, u "java/lang/Object")] 6

/-- java/lang/constant/Constable -/
def k2 : Class := { plain "java/lang/constant/Constable" (some 0) with
  accessFlags := 1537
  interfaces := #[]
  cf := some (fileOf pool2 1 #[] #[] 1537 3 #[] #[])
  fields := #[]
  methods := #[]
  instanceTypes := #[]
  staticTypes := #[]
  resolved := Array.replicate 11 none
  statics := none }

def pool3 : Array CpInfo := pool [(1, .class_ 2), (0, u "java/lang/Comparable"), (0, .class_ 4), (0, u "java/lang/Object")] 7

/-- java/lang/Comparable -/
def k3 : Class := { plain "java/lang/Comparable" (some 0) with
  accessFlags := 1537
  interfaces := #[]
  cf := some (fileOf pool3 1 #[] #[] 1537 3 #[] #[])
  fields := #[]
  methods := #[]
  instanceTypes := #[]
  staticTypes := #[]
  resolved := Array.replicate 12 none
  statics := none }

def pool4 : Array CpInfo := pool [(1, .class_ 2), (0, u "java/io/Serializable"), (0, .class_ 4), (0, u "java/lang/Object")] 2

/-- java/io/Serializable -/
def k4 : Class := { plain "java/io/Serializable" (some 0) with
  accessFlags := 1537
  interfaces := #[]
  cf := some (fileOf pool4 1 #[] #[] 1537 3 #[] #[])
  fields := #[]
  methods := #[]
  instanceTypes := #[]
  staticTypes := #[]
  resolved := Array.replicate 7 none
  statics := none }

def pool5 : Array CpInfo := pool [(2, .class_ 4), (1, u "java/lang/Enum"), (0, u "name"), (0, u "Ljava/lang/String;"), (2, u "ordinal"), (0, u "I"), (1, .class_ 14), (1, u "java/lang/Object"), (4, u "hash"), (86, .class_ 108), (1, u "java/lang/Enum$EnumDesc"), (2, .class_ 112), (0, u "java/lang/constant/Constable"), (0, .class_ 114), (0, u "java/lang/Comparable"), (0, .class_ 116), (0, u "java/io/Serializable")] 87

/-- java/lang/Enum -/
def k5 : Class := { plain "java/lang/Enum" (some 0) with
  accessFlags := 1057
  interfaces := #[2, 3, 4]
  cf := some (fileOf pool5 2 #[.nestMembers #[106]] #[] 1057 12 #[111, 113, 115] #[{ accessFlags := 18, nameIndex := 5, descriptorIndex := 6, attributes := #[] }, { accessFlags := 18, nameIndex := 9, descriptorIndex := 10, attributes := #[] }, { accessFlags := 2, nameIndex := 19, descriptorIndex := 10, attributes := #[] }])
  fields := #[{ name := "name", type := (.object "java/lang/String"), accessFlags := 18, slot := 0, constantValue := 0 }, { name := "ordinal", type := .int, accessFlags := 18, slot := 1, constantValue := 0 }, { name := "hash", type := .int, accessFlags := 2, slot := 2, constantValue := 0 }]
  methods := #[]
  instanceTypes := #[(.object "java/lang/String"), .int, .int]
  staticTypes := #[]
  resolved := Array.replicate 204 none
  statics := none }

def pool6 : Array CpInfo := pool [(1, .class_ 2), (0, u "com/example/longhaul/longhaul/Iso8583AsciiCodec$LengthKind"), (2, u "FIXED"), (0, u "Lcom/example/longhaul/longhaul/Iso8583AsciiCodec$LengthKind;"), (2, u "LLVAR"), (2, u "LLLVAR"), (2, u "$VALUES"), (0, u "[Lcom/example/longhaul/longhaul/Iso8583AsciiCodec$LengthKind;"), (6, .class_ 25), (1, u "java/lang/Enum"), (8, u "digits"), (0, u "I"), (23, .class_ 60), (0, u "com/example/longhaul/longhaul/Iso8583AsciiCodec")] 2

/-- com/example/longhaul/longhaul/Iso8583AsciiCodec$LengthKind -/
def k6 : Class := { plain "com/example/longhaul/longhaul/Iso8583AsciiCodec$LengthKind" (some 5) with
  nestHost := some 33
  accessFlags := 16432
  interfaces := #[]
  cf := some (fileOf pool6 1 #[.nestHost 59] #[] 16432 23 #[] #[{ accessFlags := 16409, nameIndex := 5, descriptorIndex := 6, attributes := #[] }, { accessFlags := 16409, nameIndex := 9, descriptorIndex := 6, attributes := #[] }, { accessFlags := 16409, nameIndex := 12, descriptorIndex := 6, attributes := #[] }, { accessFlags := 18, nameIndex := 34, descriptorIndex := 35, attributes := #[] }, { accessFlags := 4122, nameIndex := 15, descriptorIndex := 16, attributes := #[] }])
  fields := #[{ name := "FIXED", type := (.object "com/example/longhaul/longhaul/Iso8583AsciiCodec$LengthKind"), accessFlags := 16409, slot := 0, constantValue := 0 }, { name := "LLVAR", type := (.object "com/example/longhaul/longhaul/Iso8583AsciiCodec$LengthKind"), accessFlags := 16409, slot := 1, constantValue := 0 }, { name := "LLLVAR", type := (.object "com/example/longhaul/longhaul/Iso8583AsciiCodec$LengthKind"), accessFlags := 16409, slot := 2, constantValue := 0 }, { name := "digits", type := .int, accessFlags := 18, slot := 3, constantValue := 0 }, { name := "$VALUES", type := (.array (.object "com/example/longhaul/longhaul/Iso8583AsciiCodec$LengthKind")), accessFlags := 4122, slot := 3, constantValue := 0 }]
  methods := #[]
  instanceTypes := #[(.object "java/lang/String"), .int, .int, .int]
  staticTypes := #[(.object "com/example/longhaul/longhaul/Iso8583AsciiCodec$LengthKind"), (.object "com/example/longhaul/longhaul/Iso8583AsciiCodec$LengthKind"), (.object "com/example/longhaul/longhaul/Iso8583AsciiCodec$LengthKind"), (.array (.object "com/example/longhaul/longhaul/Iso8583AsciiCodec$LengthKind"))]
  resolved := Array.replicate 63 none
  statics := some 0 }

def pool7 : Array CpInfo := pool [(2, .class_ 4), (1, u "java/lang/CharSequence"), (42, .class_ 48), (0, u "java/lang/CharSequence$1CodePointIterator"), (10, .class_ 60), (0, u "java/lang/CharSequence$1CharIterator"), (5, .class_ 67), (0, u "java/lang/Object")] 63

/-- java/lang/CharSequence -/
def k7 : Class := { plain "java/lang/CharSequence" (some 0) with
  accessFlags := 1537
  interfaces := #[]
  cf := some (fileOf pool7 2 #[.nestMembers #[47, 59]] #[] 1537 66 #[] #[])
  fields := #[]
  methods := #[]
  instanceTypes := #[]
  staticTypes := #[]
  resolved := Array.replicate 131 none
  statics := none }

def pool8 : Array CpInfo := pool [(1, .class_ 2), (0, u "java/lang/constant/ConstantDesc"), (0, .class_ 4), (0, u "java/lang/Object")] 32

/-- java/lang/constant/ConstantDesc -/
def k8 : Class := { plain "java/lang/constant/ConstantDesc" (some 0) with
  accessFlags := 1537
  interfaces := #[]
  cf := some (fileOf pool8 1 #[] #[] 1537 3 #[] #[])
  fields := #[]
  methods := #[]
  instanceTypes := #[]
  staticTypes := #[]
  resolved := Array.replicate 37 none
  statics := none }

def pool9 : Array CpInfo := pool [(1, .methodref 2 3), (0, .class_ 4), (0, .nameAndType 5 6), (0, u "java/lang/Object"), (0, u "<init>"), (0, u "()V"), (0, .string 8), (0, u ""), (0, .fieldref 10 11), (0, .class_ 12), (0, .nameAndType 13 14), (0, u "java/lang/String"), (0, u "value"), (0, u "[B"), (0, .fieldref 10 16), (0, .nameAndType 17 18), (0, u "coder"), (0, u "B"), (2, u "hash"), (0, u "I"), (2, u "hashIsZero"), (0, u "Z"), (7, .methodref 10 35), (0, .nameAndType 36 37), (0, u "checkBoundsOffCount"), (0, u "(III)I"), (0, .fieldref 10 39), (0, .nameAndType 40 26), (0, u "COMPACT_STRINGS"), (13, .methodref 55 56), (0, .class_ 57), (0, .nameAndType 58 59), (0, u "java/util/Arrays"), (0, u "copyOfRange"), (0, u "([BII)[B"), (15, .methodref 10 76), (0, .nameAndType 5 77), (0, u "(Ljava/nio/charset/Charset;[BII)V"), (0, .methodref 79 80), (0, .class_ 81), (0, .nameAndType 82 83), (0, u "java/util/Objects"), (0, u "requireNonNull"), (0, u "(Ljava/lang/Object;)Ljava/lang/Object;"), (0, .class_ 85), (0, u "java/nio/charset/Charset"), (0, .fieldref 87 88), (0, .class_ 89), (0, .nameAndType 90 91), (0, u "sun/nio/cs/UTF_8"), (0, u "INSTANCE"), (0, u "Lsun/nio/cs/UTF_8;"), (1, .class_ 95), (1, u "java/lang/StringCoding"), (11, .class_ 109), (1, u "java/lang/StringLatin1"), (6, .fieldref 117 118), (0, .class_ 119), (0, .nameAndType 90 120), (0, u "sun/nio/cs/ISO_8859_1"), (0, u "Lsun/nio/cs/ISO_8859_1;"), (2, .fieldref 124 125), (0, .class_ 126), (0, .nameAndType 90 127), (0, u "sun/nio/cs/US_ASCII"), (0, u "Lsun/nio/cs/US_ASCII;"), (0, .methodref 93 129), (0, .nameAndType 130 131), (0, u "hasNegatives"), (0, u "([BII)Z"), (10, u "()Z"), (95, u "([BIILjava/nio/charset/Charset;)V"), (95, u "()I"), (0, .methodref 10 336), (0, .nameAndType 17 337), (0, u "()B"), (25, u "([BI)C"), (27, u "(II)V"), (35, u "(I)C"), (64, .methodref 10 493), (0, .nameAndType 494 142), (0, u "isLatin1"), (0, .methodref 107 496), (0, .nameAndType 497 363), (0, u "charAt"), (3, u "checkIndex"), (5, u "length"), (67, .class_ 576), (0, u "java/lang/CharSequence"), (22, u "CASE_INSENSITIVE_ORDER"), (0, u "Ljava/util/Comparator;"), (452, .fieldref 1054 1055), (0, .class_ 1056), (0, .nameAndType 1057 1058), (0, u "jdk/internal/util/Preconditions"), (0, u "SIOOBE_FORMATTER"), (0, u "Ljava/util/function/BiFunction;"), (0, .methodref 1054 1060), (0, .nameAndType 501 1061), (0, u "(IILjava/util/function/BiFunction;)I"), (2, u "(IIILjava/util/function/BiFunction;)I"), (0, .methodref 1054 1066), (0, .nameAndType 1067 1064), (0, u "checkFromIndexSize"), (33, u "serialPersistentFields"), (0, u "[Ljava/io/ObjectStreamField;"), (0, .class_ 1104), (0, u "java/lang/String$CaseInsensitiveComparator"), (1, .class_ 1107), (0, u "java/io/Serializable"), (0, .class_ 1109), (0, u "java/lang/Comparable"), (0, .class_ 1111), (0, u "java/lang/constant/Constable"), (0, .class_ 1113), (0, u "java/lang/constant/ConstantDesc"), (2, u "serialVersionUID"), (0, u "J"), (3, u "REPL"), (0, u "C"), (2, u "LATIN1"), (1, u "UTF16")] 323

def k9m0 : Method := { name := "<init>", desc := "()V", sig := { parameters := [], returnType := none }, accessFlags := 1, code := none }
def k9c1 : Code := { maxStack := 6, maxLocals := 5, code := jdk_42_method_10_code, exceptionTable := #[], attributes := #[] }
def k9m1 : Method := { name := "<init>", desc := "([BIILjava/nio/charset/Charset;)V", sig := { parameters := [(.array .byte), .int, .int, (.object "java/nio/charset/Charset")], returnType := none }, accessFlags := 1, code := some k9c1 }
def k9c2 : Code := { maxStack := 6, maxLocals := 11, code := jdk_42_method_11_code, exceptionTable := #[{ startPc := 800, endPc := 813, handlerPc := 816, catchType := 202 }], attributes := #[] }
def k9m2 : Method := { name := "<init>", desc := "(Ljava/nio/charset/Charset;[BII)V", sig := { parameters := [(.object "java/nio/charset/Charset"), (.array .byte), .int, .int], returnType := none }, accessFlags := 2, code := some k9c2 }
def k9c3 : Code := { maxStack := 2, maxLocals := 1, code := jdk_42_method_54_code, exceptionTable := #[], attributes := #[] }
def k9m3 : Method := { name := "length", desc := "()I", sig := { parameters := [], returnType := some .int }, accessFlags := 1, code := some k9c3 }
def k9c4 : Code := { maxStack := 2, maxLocals := 2, code := jdk_42_method_56_code, exceptionTable := #[], attributes := #[] }
def k9m4 : Method := { name := "charAt", desc := "(I)C", sig := { parameters := [.int], returnType := some .char }, accessFlags := 1, code := some k9c4 }
def k9c5 : Code := { maxStack := 1, maxLocals := 1, code := jdk_42_method_152_code, exceptionTable := #[], attributes := #[] }
def k9m5 : Method := { name := "coder", desc := "()B", sig := { parameters := [], returnType := some .byte }, accessFlags := 0, code := some k9c5 }
def k9c6 : Code := { maxStack := 1, maxLocals := 1, code := jdk_42_method_154_code, exceptionTable := #[], attributes := #[] }
def k9m6 : Method := { name := "isLatin1", desc := "()Z", sig := { parameters := [], returnType := some .boolean }, accessFlags := 0, code := some k9c6 }
def k9c7 : Code := { maxStack := 3, maxLocals := 2, code := jdk_42_method_155_code, exceptionTable := #[], attributes := #[] }
def k9m7 : Method := { name := "checkIndex", desc := "(II)V", sig := { parameters := [.int, .int], returnType := none }, accessFlags := 8, code := some k9c7 }
def k9c8 : Code := { maxStack := 4, maxLocals := 3, code := jdk_42_method_157_code, exceptionTable := #[], attributes := #[] }
def k9m8 : Method := { name := "checkBoundsOffCount", desc := "(III)I", sig := { parameters := [.int, .int, .int], returnType := some .int }, accessFlags := 8, code := some k9c8 }
/-- java/lang/String -/
def k9 : Class := { plain "java/lang/String" (some 0) with
  accessFlags := 49
  interfaces := #[4, 3, 7, 2, 8]
  cf := some (fileOf pool9 10 #[.nestMembers #[1103]] #[{ accessFlags := 1, nameIndex := 5, descriptorIndex := 6, attributes := #[] }, { accessFlags := 1, nameIndex := 5, descriptorIndex := 238, attributes := #[] }, { accessFlags := 2, nameIndex := 5, descriptorIndex := 77, attributes := #[] }, { accessFlags := 1, nameIndex := 507, descriptorIndex := 334, attributes := #[] }, { accessFlags := 1, nameIndex := 497, descriptorIndex := 427, attributes := #[] }, { accessFlags := 0, nameIndex := 17, descriptorIndex := 337, attributes := #[] }, { accessFlags := 0, nameIndex := 494, descriptorIndex := 142, attributes := #[] }, { accessFlags := 8, nameIndex := 501, descriptorIndex := 391, attributes := #[] }, { accessFlags := 8, nameIndex := 36, descriptorIndex := 37, attributes := #[] }] 49 2 #[1106, 1108, 575, 1110, 1112] #[{ accessFlags := 18, nameIndex := 13, descriptorIndex := 14, attributes := #[] }, { accessFlags := 18, nameIndex := 17, descriptorIndex := 18, attributes := #[] }, { accessFlags := 2, nameIndex := 21, descriptorIndex := 22, attributes := #[] }, { accessFlags := 2, nameIndex := 25, descriptorIndex := 26, attributes := #[] }, { accessFlags := 26, nameIndex := 1116, descriptorIndex := 1117, attributes := #[] }, { accessFlags := 24, nameIndex := 40, descriptorIndex := 26, attributes := #[] }, { accessFlags := 26, nameIndex := 1101, descriptorIndex := 1102, attributes := #[] }, { accessFlags := 26, nameIndex := 1121, descriptorIndex := 1122, attributes := #[] }, { accessFlags := 25, nameIndex := 599, descriptorIndex := 600, attributes := #[] }, { accessFlags := 24, nameIndex := 1125, descriptorIndex := 18, attributes := #[] }, { accessFlags := 24, nameIndex := 1127, descriptorIndex := 18, attributes := #[] }])
  fields := #[{ name := "value", type := (.array .byte), accessFlags := 18, slot := 0, constantValue := 0 }, { name := "coder", type := .byte, accessFlags := 18, slot := 1, constantValue := 0 }, { name := "hash", type := .int, accessFlags := 2, slot := 2, constantValue := 0 }, { name := "hashIsZero", type := .boolean, accessFlags := 2, slot := 3, constantValue := 0 }, { name := "serialVersionUID", type := .long, accessFlags := 26, slot := 0, constantValue := 0 }, { name := "COMPACT_STRINGS", type := .boolean, accessFlags := 24, slot := 1, constantValue := 0 }, { name := "serialPersistentFields", type := (.array (.object "java/io/ObjectStreamField")), accessFlags := 26, slot := 2, constantValue := 0 }, { name := "REPL", type := .char, accessFlags := 26, slot := 3, constantValue := 0 }, { name := "CASE_INSENSITIVE_ORDER", type := (.object "java/util/Comparator"), accessFlags := 25, slot := 4, constantValue := 0 }, { name := "LATIN1", type := .byte, accessFlags := 24, slot := 5, constantValue := 0 }, { name := "UTF16", type := .byte, accessFlags := 24, slot := 6, constantValue := 0 }]
  methods := #[k9m0, k9m1, k9m2, k9m3, k9m4, k9m5, k9m6, k9m7, k9m8]
  instanceTypes := #[(.array .byte), .byte, .int, .boolean]
  staticTypes := #[.long, .boolean, (.array (.object "java/io/ObjectStreamField")), .char, (.object "java/util/Comparator"), .byte, .byte]
  resolved := Array.replicate 1451 none
  statics := some 1 }

def pool10 : Array CpInfo := pool [(1, .methodref 2 3), (0, .class_ 4), (0, .nameAndType 5 6), (0, u "java/lang/Object"), (0, u "<init>"), (0, u "()V"), (0, .class_ 8), (0, u "java/lang/Record")] 13

def k10c0 : Code := { maxStack := 1, maxLocals := 1, code := jdk_30_method_1_code, exceptionTable := #[], attributes := #[] }
def k10m0 : Method := { name := "<init>", desc := "()V", sig := { parameters := [], returnType := none }, accessFlags := 4, code := some k10c0 }
/-- java/lang/Record -/
def k10 : Class := { plain "java/lang/Record" (some 0) with
  accessFlags := 1057
  interfaces := #[]
  cf := some (fileOf pool10 7 #[] #[{ accessFlags := 4, nameIndex := 5, descriptorIndex := 6, attributes := #[] }] 1057 2 #[] #[])
  fields := #[]
  methods := #[k10m0]
  instanceTypes := #[]
  staticTypes := #[]
  resolved := Array.replicate 22 none
  statics := none }

def pool11 : Array CpInfo := pool [(1, .methodref 2 3), (0, .class_ 4), (0, .nameAndType 5 6), (0, u "java/lang/Record"), (0, u "<init>"), (0, u "()V"), (0, .fieldref 8 9), (0, .class_ 10), (0, .nameAndType 11 12), (0, u "com/example/longhaul/longhaul/Iso8583AsciiCodec$FieldFormat"), (0, u "kind"), (0, u "Lcom/example/longhaul/longhaul/Iso8583AsciiCodec$LengthKind;"), (0, .fieldref 8 14), (0, .nameAndType 15 16), (0, u "maxLength"), (0, u "I"), (1, .class_ 20), (1, u "com/example/longhaul/longhaul/Iso8583AsciiCodec"), (3, .class_ 26), (1, u "com/example/longhaul/longhaul/Iso8583AsciiCodec$LengthKind"), (2, .class_ 31), (1, u "java/lang/String"), (12, .fieldref 24 45), (0, .nameAndType 46 16), (0, u "digits"), (7, .fieldref 55 56), (0, .class_ 57), (0, .nameAndType 58 59), (0, u "java/nio/charset/StandardCharsets"), (0, u "US_ASCII"), (0, u "Ljava/nio/charset/Charset;"), (0, .methodref 29 61), (0, .nameAndType 5 62), (0, u "([BIILjava/nio/charset/Charset;)V"), (17, u "(Lcom/example/longhaul/longhaul/Iso8583AsciiCodec$LengthKind;I)V"), (7, u "read"), (0, u "(I[BI[Ljava/lang/String;I)I")] 45

def k11c0 : Code := { maxStack := 2, maxLocals := 3, code := prog_15_method_1_code, exceptionTable := #[], attributes := #[] }
def k11m0 : Method := { name := "<init>", desc := "(Lcom/example/longhaul/longhaul/Iso8583AsciiCodec$LengthKind;I)V", sig := { parameters := [(.object "com/example/longhaul/longhaul/Iso8583AsciiCodec$LengthKind"), .int], returnType := none }, accessFlags := 0, code := some k11c0 }
def k11c1 : Code := { maxStack := 10, maxLocals := 9, code := prog_15_method_4_code, exceptionTable := #[], attributes := #[] }
def k11m1 : Method := { name := "read", desc := "(I[BI[Ljava/lang/String;I)I", sig := { parameters := [.int, (.array .byte), .int, (.array (.object "java/lang/String")), .int], returnType := some .int }, accessFlags := 0, code := some k11c1 }
/-- com/example/longhaul/longhaul/Iso8583AsciiCodec$FieldFormat -/
def k11 : Class := { plain "com/example/longhaul/longhaul/Iso8583AsciiCodec$FieldFormat" (some 10) with
  nestHost := some 33
  accessFlags := 48
  interfaces := #[]
  cf := some (fileOf pool11 8 #[.nestHost 18] #[{ accessFlags := 0, nameIndex := 5, descriptorIndex := 80, attributes := #[] }, { accessFlags := 0, nameIndex := 88, descriptorIndex := 89, attributes := #[] }] 48 2 #[] #[{ accessFlags := 18, nameIndex := 11, descriptorIndex := 12, attributes := #[] }, { accessFlags := 18, nameIndex := 15, descriptorIndex := 16, attributes := #[] }])
  fields := #[{ name := "kind", type := (.object "com/example/longhaul/longhaul/Iso8583AsciiCodec$LengthKind"), accessFlags := 18, slot := 0, constantValue := 0 }, { name := "maxLength", type := .int, accessFlags := 18, slot := 1, constantValue := 0 }]
  methods := #[k11m0, k11m1]
  instanceTypes := #[(.object "com/example/longhaul/longhaul/Iso8583AsciiCodec$LengthKind"), .int]
  staticTypes := #[]
  resolved := Array.replicate 135 none
  statics := none }

def pool12 : Array CpInfo := pool [(2, .class_ 4), (1, u "java/lang/Object"), (0, u "<init>"), (0, u "()V"), (14, .class_ 23), (1, u "java/nio/charset/StandardCharsets"), (0, u "US_ASCII"), (0, u "Ljava/nio/charset/Charset;"), (7, u "ISO_8859_1"), (7, u "UTF_8"), (5, u "UTF_16BE"), (5, u "UTF_16LE"), (5, u "UTF_16")] 8

def k12m0 : Method := { name := "<init>", desc := "()V", sig := { parameters := [], returnType := none }, accessFlags := 2, code := none }
/-- java/nio/charset/StandardCharsets -/
def k12 : Class := { plain "java/nio/charset/StandardCharsets" (some 0) with
  accessFlags := 49
  interfaces := #[]
  cf := some (fileOf pool12 21 #[] #[{ accessFlags := 2, nameIndex := 5, descriptorIndex := 6, attributes := #[] }] 49 2 #[] #[{ accessFlags := 25, nameIndex := 24, descriptorIndex := 25, attributes := #[] }, { accessFlags := 25, nameIndex := 33, descriptorIndex := 25, attributes := #[] }, { accessFlags := 25, nameIndex := 41, descriptorIndex := 25, attributes := #[] }, { accessFlags := 25, nameIndex := 47, descriptorIndex := 25, attributes := #[] }, { accessFlags := 25, nameIndex := 53, descriptorIndex := 25, attributes := #[] }, { accessFlags := 25, nameIndex := 59, descriptorIndex := 25, attributes := #[] }])
  fields := #[{ name := "US_ASCII", type := (.object "java/nio/charset/Charset"), accessFlags := 25, slot := 0, constantValue := 0 }, { name := "ISO_8859_1", type := (.object "java/nio/charset/Charset"), accessFlags := 25, slot := 1, constantValue := 0 }, { name := "UTF_8", type := (.object "java/nio/charset/Charset"), accessFlags := 25, slot := 2, constantValue := 0 }, { name := "UTF_16BE", type := (.object "java/nio/charset/Charset"), accessFlags := 25, slot := 3, constantValue := 0 }, { name := "UTF_16LE", type := (.object "java/nio/charset/Charset"), accessFlags := 25, slot := 4, constantValue := 0 }, { name := "UTF_16", type := (.object "java/nio/charset/Charset"), accessFlags := 25, slot := 5, constantValue := 0 }]
  methods := #[k12m0]
  instanceTypes := #[]
  staticTypes := #[(.object "java/nio/charset/Charset"), (.object "java/nio/charset/Charset"), (.object "java/nio/charset/Charset"), (.object "java/nio/charset/Charset"), (.object "java/nio/charset/Charset"), (.object "java/nio/charset/Charset")]
  resolved := Array.replicate 68 none
  statics := some 2 }

def pool13 : Array CpInfo := pool [(2, .class_ 4), (1, u "java/lang/Object"), (0, u "<init>"), (0, u "()V"), (35, .class_ 44), (1, u "java/util/Objects"), (0, u "requireNonNull"), (0, u "(Ljava/lang/Object;)Ljava/lang/Object;")] 137

def k13m0 : Method := { name := "<init>", desc := "()V", sig := { parameters := [], returnType := none }, accessFlags := 2, code := none }
def k13c1 : Code := { maxStack := 2, maxLocals := 1, code := jdk_31_method_10_code, exceptionTable := #[], attributes := #[] }
def k13m1 : Method := { name := "requireNonNull", desc := "(Ljava/lang/Object;)Ljava/lang/Object;", sig := { parameters := [(.object "java/lang/Object")], returnType := some (.object "java/lang/Object") }, accessFlags := 9, code := some k13c1 }
/-- java/util/Objects -/
def k13 : Class := { plain "java/util/Objects" (some 0) with
  accessFlags := 49
  interfaces := #[]
  cf := some (fileOf pool13 42 #[] #[{ accessFlags := 2, nameIndex := 5, descriptorIndex := 6, attributes := #[] }, { accessFlags := 9, nameIndex := 45, descriptorIndex := 46, attributes := #[] }] 49 2 #[] #[])
  fields := #[]
  methods := #[k13m0, k13m1]
  instanceTypes := #[]
  staticTypes := #[]
  resolved := Array.replicate 184 none
  statics := none }

def pool14 : Array CpInfo := pool [(18, .class_ 20), (1, u "java/nio/charset/Charset"), (0, u "cache1"), (0, u "[Ljava/lang/Object;"), (2, u "cache2"), (0, .class_ 27), (0, u "java/lang/Object"), (0, .class_ 29), (0, u "java/nio/charset/Charset$1"), (4, .class_ 36), (1, u "java/nio/charset/Charset$ThreadTrackHolder"), (21, .class_ 59), (0, u "java/nio/charset/Charset$2"), (11, .class_ 73), (1, u "java/nio/charset/Charset$ExtendedProviderHolder"), (22, u "standardProvider"), (0, u "Ljava/nio/charset/spi/CharsetProvider;"), (29, u "name"), (7, .class_ 136), (0, u "java/nio/charset/Charset$3"), (5, u "defaultCharset"), (0, u "Ljava/nio/charset/Charset;"), (14, u "zeroAliases"), (0, u "[Ljava/lang/String;"), (29, u "Ljava/lang/String;"), (2, u "aliases"), (2, u "aliasSet"), (0, u "Ljava/util/Set;"), (82, .class_ 280), (0, u "java/lang/Comparable"), (84, .class_ 366), (0, u "java/nio/charset/Charset$ExtendedProviderHolder$1")] 3

/-- java/nio/charset/Charset -/
def k14 : Class := { plain "java/nio/charset/Charset" (some 0) with
  accessFlags := 1057
  interfaces := #[3]
  cf := some (fileOf pool14 18 #[.nestMembers #[71, 365, 34, 135, 58, 28]] #[] 1057 26 #[279] #[{ accessFlags := 26, nameIndex := 96, descriptorIndex := 97, attributes := #[] }, { accessFlags := 26, nameIndex := 158, descriptorIndex := 159, attributes := #[] }, { accessFlags := 74, nameIndex := 21, descriptorIndex := 22, attributes := #[] }, { accessFlags := 74, nameIndex := 25, descriptorIndex := 22, attributes := #[] }, { accessFlags := 10, nameIndex := 142, descriptorIndex := 143, attributes := #[] }, { accessFlags := 18, nameIndex := 127, descriptorIndex := 189, attributes := #[] }, { accessFlags := 18, nameIndex := 192, descriptorIndex := 159, attributes := #[] }, { accessFlags := 2, nameIndex := 195, descriptorIndex := 196, attributes := #[] }])
  fields := #[{ name := "standardProvider", type := (.object "java/nio/charset/spi/CharsetProvider"), accessFlags := 26, slot := 0, constantValue := 0 }, { name := "zeroAliases", type := (.array (.object "java/lang/String")), accessFlags := 26, slot := 1, constantValue := 0 }, { name := "cache1", type := (.array (.object "java/lang/Object")), accessFlags := 74, slot := 2, constantValue := 0 }, { name := "cache2", type := (.array (.object "java/lang/Object")), accessFlags := 74, slot := 3, constantValue := 0 }, { name := "defaultCharset", type := (.object "java/nio/charset/Charset"), accessFlags := 10, slot := 4, constantValue := 0 }, { name := "name", type := (.object "java/lang/String"), accessFlags := 18, slot := 0, constantValue := 0 }, { name := "aliases", type := (.array (.object "java/lang/String")), accessFlags := 18, slot := 1, constantValue := 0 }, { name := "aliasSet", type := (.object "java/util/Set"), accessFlags := 2, slot := 2, constantValue := 0 }]
  methods := #[]
  instanceTypes := #[(.object "java/lang/String"), (.array (.object "java/lang/String")), (.object "java/util/Set")]
  staticTypes := #[(.object "java/nio/charset/spi/CharsetProvider"), (.array (.object "java/lang/String")), (.array (.object "java/lang/Object")), (.array (.object "java/lang/Object")), (.object "java/nio/charset/Charset")]
  resolved := Array.replicate 370 none
  statics := none }

def pool15 : Array CpInfo := pool [(1, .class_ 2), (0, u "sun/nio/cs/HistoricallyNamedCharset"), (0, .class_ 4), (0, u "java/lang/Object")] 4

/-- sun/nio/cs/HistoricallyNamedCharset -/
def k15 : Class := { plain "sun/nio/cs/HistoricallyNamedCharset" (some 0) with
  accessFlags := 1537
  interfaces := #[]
  cf := some (fileOf pool15 1 #[] #[] 1537 3 #[] #[])
  fields := #[]
  methods := #[]
  instanceTypes := #[]
  staticTypes := #[]
  resolved := Array.replicate 9 none
  statics := none }

def pool16 : Array CpInfo := pool [(10, .class_ 12), (1, u "java/nio/charset/Charset"), (0, u "<init>"), (3, .class_ 18), (0, u "sun/nio/cs/US_ASCII"), (0, .class_ 20), (0, u "sun/nio/cs/US_ASCII$Decoder"), (3, .class_ 25), (0, u "sun/nio/cs/US_ASCII$Encoder"), (3, u "()V"), (2, u "INSTANCE"), (0, u "Lsun/nio/cs/US_ASCII;"), (8, u "JLA"), (0, u "Ljdk/internal/access/JavaLangAccess;"), (0, .class_ 45), (0, u "sun/nio/cs/HistoricallyNamedCharset")] 21

def k16m0 : Method := { name := "<init>", desc := "()V", sig := { parameters := [], returnType := none }, accessFlags := 1, code := none }
/-- sun/nio/cs/US_ASCII -/
def k16 : Class := { plain "sun/nio/cs/US_ASCII" (some 14) with
  accessFlags := 33
  interfaces := #[15]
  cf := some (fileOf pool16 17 #[.nestMembers #[24, 19]] #[{ accessFlags := 1, nameIndex := 13, descriptorIndex := 29, attributes := #[] }] 33 10 #[44] #[{ accessFlags := 25, nameIndex := 32, descriptorIndex := 33, attributes := #[] }, { accessFlags := 26, nameIndex := 42, descriptorIndex := 43, attributes := #[] }])
  fields := #[{ name := "INSTANCE", type := (.object "sun/nio/cs/US_ASCII"), accessFlags := 25, slot := 0, constantValue := 0 }, { name := "JLA", type := (.object "jdk/internal/access/JavaLangAccess"), accessFlags := 26, slot := 1, constantValue := 0 }]
  methods := #[k16m0]
  instanceTypes := #[(.object "java/lang/String"), (.array (.object "java/lang/String")), (.object "java/util/Set")]
  staticTypes := #[(.object "sun/nio/cs/US_ASCII"), (.object "jdk/internal/access/JavaLangAccess")]
  resolved := Array.replicate 67 none
  statics := some 3 }

def pool17 : Array CpInfo := pool [(2, .class_ 4), (1, u "java/lang/Object"), (0, u "<init>"), (0, u "()V"), (17, .class_ 26), (1, u "jdk/internal/util/Preconditions"), (6, u "checkIndex"), (15, u "checkFromIndexSize"), (5, .class_ 56), (0, u "jdk/internal/util/Preconditions$4"), (57, .class_ 115), (0, u "jdk/internal/util/Preconditions$1"), (7, u "SIOOBE_FORMATTER"), (0, u "Ljava/util/function/BiFunction;"), (0, .class_ 126), (0, u "jdk/internal/util/Preconditions$2"), (3, u "AIOOBE_FORMATTER"), (0, .class_ 132), (0, u "jdk/internal/util/Preconditions$3"), (3, u "IOOBE_FORMATTER"), (41, u "(IILjava/util/function/BiFunction;)I"), (4, u "(IIILjava/util/function/BiFunction;)I")] 10

def k17m0 : Method := { name := "<init>", desc := "()V", sig := { parameters := [], returnType := none }, accessFlags := 1, code := none }
def k17c1 : Code := { maxStack := 3, maxLocals := 3, code := jdk_41_method_11_code, exceptionTable := #[], attributes := #[] }
def k17m1 : Method := { name := "checkIndex", desc := "(IILjava/util/function/BiFunction;)I", sig := { parameters := [.int, .int, (.object "java/util/function/BiFunction")], returnType := some .int }, accessFlags := 9, code := some k17c1 }
def k17c2 : Code := { maxStack := 4, maxLocals := 4, code := jdk_41_method_13_code, exceptionTable := #[], attributes := #[] }
def k17m2 : Method := { name := "checkFromIndexSize", desc := "(IIILjava/util/function/BiFunction;)I", sig := { parameters := [.int, .int, .int, (.object "java/util/function/BiFunction")], returnType := some .int }, accessFlags := 9, code := some k17c2 }
/-- jdk/internal/util/Preconditions -/
def k17 : Class := { plain "jdk/internal/util/Preconditions" (some 0) with
  accessFlags := 33
  interfaces := #[]
  cf := some (fileOf pool17 24 #[.nestMembers #[55, 131, 125, 114]] #[{ accessFlags := 1, nameIndex := 5, descriptorIndex := 6, attributes := #[] }, { accessFlags := 9, nameIndex := 33, descriptorIndex := 178, attributes := #[] }, { accessFlags := 9, nameIndex := 49, descriptorIndex := 183, attributes := #[] }] 33 2 #[] #[{ accessFlags := 25, nameIndex := 123, descriptorIndex := 124, attributes := #[] }, { accessFlags := 25, nameIndex := 130, descriptorIndex := 124, attributes := #[] }, { accessFlags := 25, nameIndex := 136, descriptorIndex := 124, attributes := #[] }])
  fields := #[{ name := "SIOOBE_FORMATTER", type := (.object "java/util/function/BiFunction"), accessFlags := 25, slot := 0, constantValue := 0 }, { name := "AIOOBE_FORMATTER", type := (.object "java/util/function/BiFunction"), accessFlags := 25, slot := 1, constantValue := 0 }, { name := "IOOBE_FORMATTER", type := (.object "java/util/function/BiFunction"), accessFlags := 25, slot := 2, constantValue := 0 }]
  methods := #[k17m0, k17m1, k17m2]
  instanceTypes := #[]
  staticTypes := #[(.object "java/util/function/BiFunction"), (.object "java/util/function/BiFunction"), (.object "java/util/function/BiFunction")]
  resolved := Array.replicate 194 none
  statics := some 4 }

def pool18 : Array CpInfo := pool [(2, .class_ 4), (1, u "java/nio/charset/Charset"), (130, .class_ 136), (0, u "sun/nio/cs/Unicode"), (0, .class_ 138), (0, u "sun/nio/cs/HistoricallyNamedCharset")] 15

/-- sun/nio/cs/Unicode -/
def k18 : Class := { plain "sun/nio/cs/Unicode" (some 14) with
  accessFlags := 1056
  interfaces := #[15]
  cf := some (fileOf pool18 135 #[] #[] 1056 2 #[137] #[])
  fields := #[]
  methods := #[]
  instanceTypes := #[(.object "java/lang/String"), (.array (.object "java/lang/String")), (.object "java/util/Set")]
  staticTypes := #[]
  resolved := Array.replicate 154 none
  statics := none }

def pool19 : Array CpInfo := pool [(10, .class_ 12), (1, u "sun/nio/cs/Unicode"), (0, u "<init>"), (3, .class_ 18), (0, u "sun/nio/cs/UTF_8$Decoder"), (3, .class_ 23), (0, u "sun/nio/cs/UTF_8$Encoder"), (15, .class_ 40), (0, u "sun/nio/cs/UTF_8"), (2, u "()V"), (2, u "INSTANCE"), (0, u "Lsun/nio/cs/UTF_8;"), (8, u "JLA"), (0, u "Ljdk/internal/access/JavaLangAccess;")] 26

def k19m0 : Method := { name := "<init>", desc := "()V", sig := { parameters := [], returnType := none }, accessFlags := 1, code := none }
/-- sun/nio/cs/UTF_8 -/
def k19 : Class := { plain "sun/nio/cs/UTF_8" (some 18) with
  accessFlags := 49
  interfaces := #[]
  cf := some (fileOf pool19 39 #[.nestMembers #[22, 17]] #[{ accessFlags := 1, nameIndex := 13, descriptorIndex := 43, attributes := #[] }] 49 10 #[] #[{ accessFlags := 25, nameIndex := 46, descriptorIndex := 47, attributes := #[] }, { accessFlags := 26, nameIndex := 56, descriptorIndex := 57, attributes := #[] }])
  fields := #[{ name := "INSTANCE", type := (.object "sun/nio/cs/UTF_8"), accessFlags := 25, slot := 0, constantValue := 0 }, { name := "JLA", type := (.object "jdk/internal/access/JavaLangAccess"), accessFlags := 26, slot := 1, constantValue := 0 }]
  methods := #[k19m0]
  instanceTypes := #[(.object "java/lang/String"), (.array (.object "java/lang/String")), (.object "java/util/Set")]
  staticTypes := #[(.object "sun/nio/cs/UTF_8"), (.object "jdk/internal/access/JavaLangAccess")]
  resolved := Array.replicate 84 none
  statics := some 5 }

def pool20 : Array CpInfo := pool [(10, .class_ 12), (1, u "java/nio/charset/Charset"), (0, u "<init>"), (5, .class_ 20), (0, u "sun/nio/cs/ISO_8859_1"), (0, .class_ 22), (0, u "sun/nio/cs/ISO_8859_1$Decoder"), (3, .class_ 27), (0, u "sun/nio/cs/ISO_8859_1$Encoder"), (3, u "()V"), (2, u "INSTANCE"), (0, u "Lsun/nio/cs/ISO_8859_1;"), (0, .class_ 37), (0, u "sun/nio/cs/HistoricallyNamedCharset")] 22

def k20m0 : Method := { name := "<init>", desc := "()V", sig := { parameters := [], returnType := none }, accessFlags := 1, code := none }
/-- sun/nio/cs/ISO_8859_1 -/
def k20 : Class := { plain "sun/nio/cs/ISO_8859_1" (some 14) with
  accessFlags := 33
  interfaces := #[15]
  cf := some (fileOf pool20 19 #[.nestMembers #[26, 21]] #[{ accessFlags := 1, nameIndex := 13, descriptorIndex := 31, attributes := #[] }] 33 10 #[36] #[{ accessFlags := 25, nameIndex := 34, descriptorIndex := 35, attributes := #[] }])
  fields := #[{ name := "INSTANCE", type := (.object "sun/nio/cs/ISO_8859_1"), accessFlags := 25, slot := 0, constantValue := 0 }]
  methods := #[k20m0]
  instanceTypes := #[(.object "java/lang/String"), (.array (.object "java/lang/String")), (.object "java/util/Set")]
  staticTypes := #[(.object "sun/nio/cs/ISO_8859_1")]
  resolved := Array.replicate 60 none
  statics := some 6 }

def pool21 : Array CpInfo := pool [(2, .class_ 4), (1, u "java/lang/Object"), (0, u "<init>"), (0, u "()V"), (0, .methodref 8 9), (0, .class_ 10), (0, .nameAndType 11 12), (0, u "java/lang/StringCoding"), (0, u "countPositives"), (0, u "([BII)I"), (11, u "hasNegatives"), (0, u "([BII)Z")] 23

def k21m0 : Method := { name := "<init>", desc := "()V", sig := { parameters := [], returnType := none }, accessFlags := 2, code := none }
def k21c1 : Code := { maxStack := 3, maxLocals := 3, code := jdk_123_method_2_code, exceptionTable := #[], attributes := #[] }
def k21m1 : Method := { name := "hasNegatives", desc := "([BII)Z", sig := { parameters := [(.array .byte), .int, .int], returnType := some .boolean }, accessFlags := 9, code := some k21c1 }
def k21c2 : Code := { maxStack := 2, maxLocals := 5, code := jdk_123_method_3_code, exceptionTable := #[], attributes := #[] }
def k21m2 : Method := { name := "countPositives", desc := "([BII)I", sig := { parameters := [(.array .byte), .int, .int], returnType := some .int }, accessFlags := 9, code := some k21c2 }
/-- java/lang/StringCoding -/
def k21 : Class := { plain "java/lang/StringCoding" (some 0) with
  accessFlags := 32
  interfaces := #[]
  cf := some (fileOf pool21 8 #[] #[{ accessFlags := 2, nameIndex := 5, descriptorIndex := 6, attributes := #[] }, { accessFlags := 9, nameIndex := 24, descriptorIndex := 25, attributes := #[] }, { accessFlags := 9, nameIndex := 11, descriptorIndex := 12, attributes := #[] }] 32 2 #[] #[])
  fields := #[]
  methods := #[k21m0, k21m1, k21m2]
  instanceTypes := #[]
  staticTypes := #[]
  resolved := Array.replicate 49 none
  statics := none }

def pool22 : Array CpInfo := pool [(2, .class_ 4), (1, u "java/lang/Object"), (0, u "<init>"), (0, u "()V"), (7, .class_ 16), (1, u "java/util/Arrays"), (57, .class_ 76), (1, u "java/util/Arrays$NaturalOrder"), (32, u "()Ljava/lang/Object;"), (3, .class_ 115), (1, u "java/util/Arrays$LegacyMergeSort"), (1, u "Z"), (10, .nameAndType 129 109), (0, u "clone"), (9, u "copyOfRange"), (10, .methodref 151 152), (0, .class_ 153), (0, .nameAndType 154 155), (0, u "java/lang/System"), (0, u "arraycopy"), (0, u "(Ljava/lang/Object;ILjava/lang/Object;II)V"), (148, .methodref 305 306), (0, .class_ 307), (0, .nameAndType 308 309), (0, u "java/lang/Math"), (0, u "min"), (0, u "(II)I"), (0, .methodref 311 128), (0, .class_ 312), (0, u "[B"), (26, .methodref 14 340), (0, .nameAndType 341 342), (0, u "copyOfRangeByte"), (0, u "([BII)[B"), (0, .methodref 14 344), (0, .nameAndType 345 346), (0, u "checkLength"), (0, u "(II)V"), (28, .class_ 376), (0, u "java/util/Arrays$ArrayList"), (68, u "$assertionsDisabled"), (269, u "MIN_ARRAY_SORT_GRAN"), (0, u "I"), (2, u "INSERTIONSORT_THRESHOLD"), (255, .class_ 976), (0, u "java/util/Arrays$ArrayItr")] 52

def k22m0 : Method := { name := "<init>", desc := "()V", sig := { parameters := [], returnType := none }, accessFlags := 2, code := none }
def k22c1 : Code := { maxStack := 4, maxLocals := 2, code := jdk_65_method_131_code, exceptionTable := #[], attributes := #[] }
def k22m1 : Method := { name := "checkLength", desc := "(II)V", sig := { parameters := [.int, .int], returnType := none }, accessFlags := 10, code := some k22c1 }
def k22c2 : Code := { maxStack := 3, maxLocals := 3, code := jdk_65_method_132_code, exceptionTable := #[], attributes := #[] }
def k22m2 : Method := { name := "copyOfRange", desc := "([BII)[B", sig := { parameters := [(.array .byte), .int, .int], returnType := some (.array .byte) }, accessFlags := 9, code := some k22c2 }
def k22c3 : Code := { maxStack := 6, maxLocals := 5, code := jdk_65_method_133_code, exceptionTable := #[], attributes := #[] }
def k22m3 : Method := { name := "copyOfRangeByte", desc := "([BII)[B", sig := { parameters := [(.array .byte), .int, .int], returnType := some (.array .byte) }, accessFlags := 10, code := some k22c3 }
/-- java/util/Arrays -/
def k22 : Class := { plain "java/util/Arrays" (some 0) with
  accessFlags := 49
  interfaces := #[]
  cf := some (fileOf pool22 14 #[.nestMembers #[975, 375, 113, 74]] #[{ accessFlags := 2, nameIndex := 5, descriptorIndex := 6, attributes := #[] }, { accessFlags := 10, nameIndex := 345, descriptorIndex := 346, attributes := #[] }, { accessFlags := 9, nameIndex := 139, descriptorIndex := 342, attributes := #[] }, { accessFlags := 10, nameIndex := 341, descriptorIndex := 342, attributes := #[] }] 49 2 #[] #[{ accessFlags := 26, nameIndex := 715, descriptorIndex := 716, attributes := #[] }, { accessFlags := 26, nameIndex := 719, descriptorIndex := 716, attributes := #[] }, { accessFlags := 4120, nameIndex := 445, descriptorIndex := 117, attributes := #[] }])
  fields := #[{ name := "MIN_ARRAY_SORT_GRAN", type := .int, accessFlags := 26, slot := 0, constantValue := 0 }, { name := "INSERTIONSORT_THRESHOLD", type := .int, accessFlags := 26, slot := 1, constantValue := 0 }, { name := "$assertionsDisabled", type := .boolean, accessFlags := 4120, slot := 2, constantValue := 0 }]
  methods := #[k22m0, k22m1, k22m2, k22m3]
  instanceTypes := #[]
  staticTypes := #[.int, .int, .boolean]
  resolved := Array.replicate 1029 none
  statics := none }

def pool23 : Array CpInfo := pool [(1, .class_ 2), (0, u "java/lang/Math"), (1, .class_ 6), (1, u "java/lang/Object"), (0, u "<init>"), (0, u "()V"), (89, .class_ 100), (1, u "java/lang/Math$RandomNumberGeneratorHolder"), (71, u "negativeZeroFloatBits"), (0, u "J"), (2, u "negativeZeroDoubleBits"), (24, u "min"), (43, u "$assertionsDisabled"), (0, u "Z"), (88, u "(II)I"), (2, u "twoToTheDoubleScaleDown"), (0, u "D"), (4, u "twoToTheDoubleScaleUp"), (9, u "E"), (3, u "PI"), (2, u "TAU"), (2, u "DEGREES_TO_RADIANS"), (0, u "RADIANS_TO_DEGREES")] 94

def k23m0 : Method := { name := "<init>", desc := "()V", sig := { parameters := [], returnType := none }, accessFlags := 2, code := none }
def k23c1 : Code := { maxStack := 2, maxLocals := 2, code := jdk_29_method_69_code, exceptionTable := #[], attributes := #[] }
def k23m1 : Method := { name := "min", desc := "(II)I", sig := { parameters := [.int, .int], returnType := some .int }, accessFlags := 9, code := some k23c1 }
/-- java/lang/Math -/
def k23 : Class := { plain "java/lang/Math" (some 0) with
  accessFlags := 49
  interfaces := #[]
  cf := some (fileOf pool23 1 #[.nestMembers #[98]] #[{ accessFlags := 2, nameIndex := 7, descriptorIndex := 8, attributes := #[] }, { accessFlags := 9, nameIndex := 201, descriptorIndex := 335, attributes := #[] }] 49 4 #[] #[{ accessFlags := 25, nameIndex := 354, descriptorIndex := 339, attributes := #[] }, { accessFlags := 25, nameIndex := 358, descriptorIndex := 339, attributes := #[] }, { accessFlags := 25, nameIndex := 361, descriptorIndex := 339, attributes := #[] }, { accessFlags := 26, nameIndex := 364, descriptorIndex := 339, attributes := #[] }, { accessFlags := 26, nameIndex := 365, descriptorIndex := 339, attributes := #[] }, { accessFlags := 26, nameIndex := 172, descriptorIndex := 173, attributes := #[] }, { accessFlags := 26, nameIndex := 176, descriptorIndex := 173, attributes := #[] }, { accessFlags := 8, nameIndex := 344, descriptorIndex := 339, attributes := #[] }, { accessFlags := 8, nameIndex := 338, descriptorIndex := 339, attributes := #[] }, { accessFlags := 4120, nameIndex := 245, descriptorIndex := 246, attributes := #[] }])
  fields := #[{ name := "E", type := .double, accessFlags := 25, slot := 0, constantValue := 0 }, { name := "PI", type := .double, accessFlags := 25, slot := 1, constantValue := 0 }, { name := "TAU", type := .double, accessFlags := 25, slot := 2, constantValue := 0 }, { name := "DEGREES_TO_RADIANS", type := .double, accessFlags := 26, slot := 3, constantValue := 0 }, { name := "RADIANS_TO_DEGREES", type := .double, accessFlags := 26, slot := 4, constantValue := 0 }, { name := "negativeZeroFloatBits", type := .long, accessFlags := 26, slot := 5, constantValue := 0 }, { name := "negativeZeroDoubleBits", type := .long, accessFlags := 26, slot := 6, constantValue := 0 }, { name := "twoToTheDoubleScaleUp", type := .double, accessFlags := 8, slot := 7, constantValue := 0 }, { name := "twoToTheDoubleScaleDown", type := .double, accessFlags := 8, slot := 8, constantValue := 0 }, { name := "$assertionsDisabled", type := .boolean, accessFlags := 4120, slot := 9, constantValue := 0 }]
  methods := #[k23m0, k23m1]
  instanceTypes := #[]
  staticTypes := #[.double, .double, .double, .double, .double, .long, .long, .double, .double, .boolean]
  resolved := Array.replicate 460 none
  statics := none }

def pool24 : Array CpInfo := pool [(2, .class_ 4), (1, u "java/lang/Object"), (0, u "<init>"), (0, u "()V"), (1, .class_ 10), (1, u "java/lang/System"), (0, u "allowSecurityManager"), (0, u "I"), (16, u "cons"), (0, u "Ljava/io/Console;"), (77, .class_ 110), (1, u "java/lang/System$CallersHolder"), (43, u "initialErrStream"), (0, u "Ljava/io/PrintStream;"), (19, u "security"), (0, u "Ljava/lang/SecurityManager;"), (31, .class_ 209), (0, u "java/lang/System$1"), (7, u "props"), (0, u "Ljava/util/Properties;"), (2, u "lineSeparator"), (0, u "Ljava/lang/String;"), (96, .class_ 321), (1, u "java/lang/System$LoggerFinder"), (5, .class_ 328), (0, u "java/lang/System$Logger"), (67, u "err"), (2, u "out"), (91, u "notSupportedJnuEncoding"), (15, u "in"), (17, u "initialIn"), (0, u "Ljava/io/InputStream;"), (35, u "bootLayer"), (0, u "Ljava/lang/ModuleLayer;"), (99, .class_ 664), (0, u "java/lang/System$2"), (9, u "NEVER"), (2, u "MAYBE"), (49, u "arraycopy"), (0, u "(Ljava/lang/Object;ILjava/lang/Object;II)V"), (72, .class_ 802), (0, u "java/lang/System$Logger$Level")] 31

def k24m0 : Method := { name := "<init>", desc := "()V", sig := { parameters := [], returnType := none }, accessFlags := 2, code := none }
def k24m1 : Method := { name := "arraycopy", desc := "(Ljava/lang/Object;ILjava/lang/Object;II)V", sig := { parameters := [(.object "java/lang/Object"), .int, (.object "java/lang/Object"), .int, .int], returnType := none }, accessFlags := 265, code := none }
/-- java/lang/System -/
def k24 : Class := { plain "java/lang/System" (some 0) with
  accessFlags := 49
  interfaces := #[]
  cf := some (fileOf pool24 8 #[.nestMembers #[319, 327, 801, 108, 663, 208]] #[{ accessFlags := 2, nameIndex := 5, descriptorIndex := 6, attributes := #[] }, { accessFlags := 265, nameIndex := 727, descriptorIndex := 728, attributes := #[] }] 49 2 #[] #[{ accessFlags := 25, nameIndex := 507, descriptorIndex := 526, attributes := #[] }, { accessFlags := 25, nameIndex := 399, descriptorIndex := 155, attributes := #[] }, { accessFlags := 25, nameIndex := 396, descriptorIndex := 155, attributes := #[] }, { accessFlags := 10, nameIndex := 525, descriptorIndex := 526, attributes := #[] }, { accessFlags := 26, nameIndex := 674, descriptorIndex := 12, attributes := #[] }, { accessFlags := 26, nameIndex := 677, descriptorIndex := 12, attributes := #[] }, { accessFlags := 10, nameIndex := 11, descriptorIndex := 12, attributes := #[] }, { accessFlags := 74, nameIndex := 175, descriptorIndex := 176, attributes := #[] }, { accessFlags := 10, nameIndex := 491, descriptorIndex := 222, attributes := #[] }, { accessFlags := 74, nameIndex := 29, descriptorIndex := 30, attributes := #[] }, { accessFlags := 74, nameIndex := 154, descriptorIndex := 155, attributes := #[] }, { accessFlags := 10, nameIndex := 217, descriptorIndex := 218, attributes := #[] }, { accessFlags := 10, nameIndex := 221, descriptorIndex := 222, attributes := #[] }, { accessFlags := 8, nameIndex := 562, descriptorIndex := 563, attributes := #[] }])
  fields := #[{ name := "in", type := (.object "java/io/InputStream"), accessFlags := 25, slot := 0, constantValue := 0 }, { name := "out", type := (.object "java/io/PrintStream"), accessFlags := 25, slot := 1, constantValue := 0 }, { name := "err", type := (.object "java/io/PrintStream"), accessFlags := 25, slot := 2, constantValue := 0 }, { name := "initialIn", type := (.object "java/io/InputStream"), accessFlags := 10, slot := 3, constantValue := 0 }, { name := "NEVER", type := .int, accessFlags := 26, slot := 4, constantValue := 0 }, { name := "MAYBE", type := .int, accessFlags := 26, slot := 5, constantValue := 0 }, { name := "allowSecurityManager", type := .int, accessFlags := 10, slot := 6, constantValue := 0 }, { name := "security", type := (.object "java/lang/SecurityManager"), accessFlags := 74, slot := 7, constantValue := 0 }, { name := "notSupportedJnuEncoding", type := (.object "java/lang/String"), accessFlags := 10, slot := 8, constantValue := 0 }, { name := "cons", type := (.object "java/io/Console"), accessFlags := 74, slot := 9, constantValue := 0 }, { name := "initialErrStream", type := (.object "java/io/PrintStream"), accessFlags := 74, slot := 10, constantValue := 0 }, { name := "props", type := (.object "java/util/Properties"), accessFlags := 10, slot := 11, constantValue := 0 }, { name := "lineSeparator", type := (.object "java/lang/String"), accessFlags := 10, slot := 12, constantValue := 0 }, { name := "bootLayer", type := (.object "java/lang/ModuleLayer"), accessFlags := 8, slot := 13, constantValue := 0 }]
  methods := #[k24m0, k24m1]
  instanceTypes := #[]
  staticTypes := #[(.object "java/io/InputStream"), (.object "java/io/PrintStream"), (.object "java/io/PrintStream"), (.object "java/io/InputStream"), .int, .int, .int, (.object "java/lang/SecurityManager"), (.object "java/lang/String"), (.object "java/io/Console"), (.object "java/io/PrintStream"), (.object "java/util/Properties"), (.object "java/lang/String"), (.object "java/lang/ModuleLayer")]
  resolved := Array.replicate 834 none
  statics := none }

def pool25 : Array CpInfo := pool [(1, .class_ 2), (0, u "java/lang/String"), (1, .class_ 6), (1, u "java/lang/Object"), (0, u "<init>"), (0, u "()V"), (0, .methodref 1 10), (0, .nameAndType 11 12), (0, u "checkIndex"), (0, u "(II)V"), (1, .class_ 16), (1, u "java/lang/StringLatin1"), (36, u "([BI)C"), (67, u "$assertionsDisabled"), (0, u "Z"), (98, .class_ 223), (1, u "java/lang/StringLatin1$LinesSpliterator"), (28, u "charAt"), (137, .class_ 391), (0, u "java/lang/StringLatin1$CharsSpliterator")] 3

def k25m0 : Method := { name := "<init>", desc := "()V", sig := { parameters := [], returnType := none }, accessFlags := 0, code := none }
def k25c1 : Code := { maxStack := 2, maxLocals := 2, code := jdk_43_method_2_code, exceptionTable := #[], attributes := #[] }
def k25m1 : Method := { name := "charAt", desc := "([BI)C", sig := { parameters := [(.array .byte), .int], returnType := some .char }, accessFlags := 9, code := some k25c1 }
/-- java/lang/StringLatin1 -/
def k25 : Class := { plain "java/lang/StringLatin1" (some 0) with
  accessFlags := 48
  interfaces := #[]
  cf := some (fileOf pool25 14 #[.nestMembers #[390, 221]] #[{ accessFlags := 0, nameIndex := 7, descriptorIndex := 8, attributes := #[] }, { accessFlags := 9, nameIndex := 252, descriptorIndex := 53, attributes := #[] }] 48 4 #[] #[{ accessFlags := 4120, nameIndex := 121, descriptorIndex := 122, attributes := #[] }])
  fields := #[{ name := "$assertionsDisabled", type := .boolean, accessFlags := 4120, slot := 0, constantValue := 0 }]
  methods := #[k25m0, k25m1]
  instanceTypes := #[]
  staticTypes := #[.boolean]
  resolved := Array.replicate 395 none
  statics := none }

def pool26 : Array CpInfo := pool [(1, .class_ 2), (0, u "java/lang/Cloneable"), (0, .class_ 4), (0, u "java/lang/Object")] 2

/-- java/lang/Cloneable -/
def k26 : Class := { plain "java/lang/Cloneable" (some 0) with
  accessFlags := 1537
  interfaces := #[]
  cf := some (fileOf pool26 1 #[] #[] 1537 3 #[] #[])
  fields := #[]
  methods := #[]
  instanceTypes := #[]
  staticTypes := #[]
  resolved := Array.replicate 7 none
  statics := none }

def pool27 : Array CpInfo := pool [(9, u "<init>"), (6, .class_ 18), (1, u "java/lang/Object"), (0, u "()V"), (1, .class_ 23), (1, u "jdk/internal/util/ArraysSupport"), (0, u "LOG2_ARRAY_LONG_INDEX_SCALE"), (0, u "I"), (2, u "U"), (0, u "Ljdk/internal/misc/Unsafe;"), (8, u "BIG_ENDIAN"), (0, u "Z"), (8, u "LOG2_BYTE_BIT_SIZE"), (4, u "LOG2_ARRAY_INT_INDEX_SCALE"), (54, u "JLA"), (0, u "Ljdk/internal/access/JavaLangAccess;"), (11, u "LOG2_ARRAY_BOOLEAN_INDEX_SCALE"), (9, u "LOG2_ARRAY_BYTE_INDEX_SCALE"), (5, u "LOG2_ARRAY_CHAR_INDEX_SCALE"), (5, u "LOG2_ARRAY_SHORT_INDEX_SCALE"), (18, u "LOG2_ARRAY_FLOAT_INDEX_SCALE"), (24, u "LOG2_ARRAY_DOUBLE_INDEX_SCALE"), (89, u "T_BOOLEAN"), (2, u "T_CHAR"), (1, u "T_FLOAT"), (1, u "T_DOUBLE"), (1, u "T_BYTE"), (1, u "T_SHORT"), (1, u "T_INT"), (1, u "T_LONG"), (1, u "SOFT_MAX_ARRAY_LENGTH")] 83

def k27m0 : Method := { name := "<init>", desc := "()V", sig := { parameters := [], returnType := none }, accessFlags := 2, code := none }
/-- jdk/internal/util/ArraysSupport -/
def k27 : Class := { plain "jdk/internal/util/ArraysSupport" (some 0) with
  accessFlags := 33
  interfaces := #[]
  cf := some (fileOf pool27 21 #[] #[{ accessFlags := 2, nameIndex := 9, descriptorIndex := 19, attributes := #[] }] 33 16 #[] #[{ accessFlags := 24, nameIndex := 28, descriptorIndex := 29, attributes := #[] }, { accessFlags := 26, nameIndex := 38, descriptorIndex := 39, attributes := #[] }, { accessFlags := 25, nameIndex := 121, descriptorIndex := 25, attributes := #[] }, { accessFlags := 25, nameIndex := 131, descriptorIndex := 25, attributes := #[] }, { accessFlags := 25, nameIndex := 137, descriptorIndex := 25, attributes := #[] }, { accessFlags := 25, nameIndex := 143, descriptorIndex := 25, attributes := #[] }, { accessFlags := 25, nameIndex := 53, descriptorIndex := 25, attributes := #[] }, { accessFlags := 25, nameIndex := 24, descriptorIndex := 25, attributes := #[] }, { accessFlags := 25, nameIndex := 162, descriptorIndex := 25, attributes := #[] }, { accessFlags := 25, nameIndex := 187, descriptorIndex := 25, attributes := #[] }, { accessFlags := 26, nameIndex := 48, descriptorIndex := 25, attributes := #[] }, { accessFlags := 25, nameIndex := 277, descriptorIndex := 25, attributes := #[] }, { accessFlags := 25, nameIndex := 280, descriptorIndex := 25, attributes := #[] }, { accessFlags := 25, nameIndex := 282, descriptorIndex := 25, attributes := #[] }, { accessFlags := 25, nameIndex := 284, descriptorIndex := 25, attributes := #[] }, { accessFlags := 25, nameIndex := 286, descriptorIndex := 25, attributes := #[] }, { accessFlags := 25, nameIndex := 288, descriptorIndex := 25, attributes := #[] }, { accessFlags := 25, nameIndex := 290, descriptorIndex := 25, attributes := #[] }, { accessFlags := 25, nameIndex := 292, descriptorIndex := 25, attributes := #[] }, { accessFlags := 26, nameIndex := 108, descriptorIndex := 109, attributes := #[] }, { accessFlags := 25, nameIndex := 294, descriptorIndex := 25, attributes := #[] }])
  fields := #[{ name := "U", type := (.object "jdk/internal/misc/Unsafe"), accessFlags := 24, slot := 0, constantValue := 0 }, { name := "BIG_ENDIAN", type := .boolean, accessFlags := 26, slot := 1, constantValue := 0 }, { name := "LOG2_ARRAY_BOOLEAN_INDEX_SCALE", type := .int, accessFlags := 25, slot := 2, constantValue := 0 }, { name := "LOG2_ARRAY_BYTE_INDEX_SCALE", type := .int, accessFlags := 25, slot := 3, constantValue := 0 }, { name := "LOG2_ARRAY_CHAR_INDEX_SCALE", type := .int, accessFlags := 25, slot := 4, constantValue := 0 }, { name := "LOG2_ARRAY_SHORT_INDEX_SCALE", type := .int, accessFlags := 25, slot := 5, constantValue := 0 }, { name := "LOG2_ARRAY_INT_INDEX_SCALE", type := .int, accessFlags := 25, slot := 6, constantValue := 0 }, { name := "LOG2_ARRAY_LONG_INDEX_SCALE", type := .int, accessFlags := 25, slot := 7, constantValue := 0 }, { name := "LOG2_ARRAY_FLOAT_INDEX_SCALE", type := .int, accessFlags := 25, slot := 8, constantValue := 0 }, { name := "LOG2_ARRAY_DOUBLE_INDEX_SCALE", type := .int, accessFlags := 25, slot := 9, constantValue := 0 }, { name := "LOG2_BYTE_BIT_SIZE", type := .int, accessFlags := 26, slot := 10, constantValue := 0 }, { name := "T_BOOLEAN", type := .int, accessFlags := 25, slot := 11, constantValue := 0 }, { name := "T_CHAR", type := .int, accessFlags := 25, slot := 12, constantValue := 0 }, { name := "T_FLOAT", type := .int, accessFlags := 25, slot := 13, constantValue := 0 }, { name := "T_DOUBLE", type := .int, accessFlags := 25, slot := 14, constantValue := 0 }, { name := "T_BYTE", type := .int, accessFlags := 25, slot := 15, constantValue := 0 }, { name := "T_SHORT", type := .int, accessFlags := 25, slot := 16, constantValue := 0 }, { name := "T_INT", type := .int, accessFlags := 25, slot := 17, constantValue := 0 }, { name := "T_LONG", type := .int, accessFlags := 25, slot := 18, constantValue := 0 }, { name := "JLA", type := (.object "jdk/internal/access/JavaLangAccess"), accessFlags := 26, slot := 19, constantValue := 0 }, { name := "SOFT_MAX_ARRAY_LENGTH", type := .int, accessFlags := 25, slot := 20, constantValue := 0 }]
  methods := #[k27m0]
  instanceTypes := #[]
  staticTypes := #[(.object "jdk/internal/misc/Unsafe"), .boolean, .int, .int, .int, .int, .int, .int, .int, .int, .int, .int, .int, .int, .int, .int, .int, .int, .int, (.object "jdk/internal/access/JavaLangAccess"), .int]
  resolved := Array.replicate 378 none
  statics := none }

/-- the primitive byte -/
def k28 : Class := { plain "byte" none with kind := .primitive 'B', accessFlags := 0x411 }
/-- [B -/
def k29 : Class := { plain "[B" (some 0) with kind := .array 28 .byte, interfaces := #[26, 4], accessFlags := 1041 }

/-- the primitive int -/
def k30 : Class := { plain "int" none with kind := .primitive 'I', accessFlags := 0x411 }
/-- [I -/
def k31 : Class := { plain "[I" (some 0) with kind := .array 30 .int, interfaces := #[26, 4], accessFlags := 1041 }

/-- [Ljava/lang/String; -/
def k32 : Class := { plain "[Ljava/lang/String;" (some 0) with kind := .array 9 (.object "java/lang/String"), interfaces := #[26, 4], accessFlags := 1041 }

def heap : Heap := #[{ cls := 6, slots := #[.ref 7, .ref 9, .ref 8, .null], vm := .statics 6 },
  { cls := 9, slots := #[.long 0, .int 1, .null, .int 0, .null, .int 0, .int 0], vm := .statics 9 },
  { cls := 12, slots := #[.ref 10, .null, .null, .null, .null, .null], vm := .statics 12 },
  { cls := 16, slots := #[.ref 10, .null], vm := .statics 16 },
  { cls := 17, slots := #[.null, .null, .null], vm := .statics 17 },
  { cls := 19, slots := #[.ref 11, .null], vm := .statics 19 },
  { cls := 20, slots := #[.ref 12], vm := .statics 20 },
  { cls := 6, slots := #[.null, .int 0, .int 0, .int 0], vm := .none },
  { cls := 6, slots := #[.null, .int 0, .int 0, .int 3], vm := .none },
  { cls := 6, slots := #[.null, .int 0, .int 0, .int 2], vm := .none },
  { cls := 16, slots := #[.null, .null, .null], vm := .none },
  { cls := 19, slots := #[.null, .null, .null], vm := .none },
  { cls := 20, slots := #[.null, .null, .null], vm := .none }]
def kHost : Class := { plain "com/example/longhaul/longhaul/Iso8583AsciiCodec" (some 0) with accessFlags := 49 }
def classes : Array Class := #[k0, k1, k2, k3, k4, k5, k6, k7, k8, k9, k10, k11, k12, k13, k14, k15, k16, k17, k18, k19, k20, k21, k22, k23, k24, k25, k26, k27, k28, k29, k30, k31, k32, kHost]
def interned : List (Array UInt16 × Addr) := []
def slotsUsed : Nat := 46
def theMethod : MethodId := ⟨1, 1⟩
def args0 : Array Value := #[.int 5, .int 7, .int 3, .int 2, .long 1000]
def aboutOver (below : List Frame) : State where
  vm := { classes := classes, interned := interned.toArray }
  heap := heap
  slotsUsed := slotsUsed
  threads := #[{ frames := .invoking theMethod args0 :: below }]
def below0 : List Frame := [.native { method := ⟨0, 0⟩, args := #[] }]
def about1 : State := aboutOver below0
def p0 : Program := .bare "" "" ""
def e0 : Env := launch0.env 0 0 0
theorem w_frames : about1.frames = Frame.invoking theMethod args0 :: below0 := rfl
set_option maxRecDepth 65536 in
theorem w_args : argsFit about1.vm theMethod args0 = true := by decide +kernel
set_option maxRecDepth 65536 in
theorem w_heap : heapFits about1 = true := by decide +kernel
set_option maxRecDepth 65536 in
theorem w_runnable : about1.curStatus? = some .runnable := by decide +kernel
set_option maxRecDepth 65536 in
theorem w_alone : about1.alone = true := by decide +kernel
set_option maxRecDepth 65536 in
theorem w_named : about1.methodNamed? x = some theMethod := by decide +kernel
set_option maxRecDepth 65536 in
theorem w_hears : about1.hears theMethod below0 = true := by decide +kernel
set_option maxRecDepth 65536 in
theorem w_ripe : about1.ripe theMethod args0 below0 = true := by decide +kernel
theorem w_running : about1.status = .running := rfl
set_option maxRecDepth 65536 in
theorem w_room : about1.hasRoom e0.platform room_1 = true :=
  launch0.hasRoom_least _ room_1 (by decide +kernel) (by decide +kernel) (by decide +kernel) (by decide +kernel) (by decide +kernel) (by decide +kernel)
theorem allAtoms_all (ts : List Jvm.Cond) (a : Array Jvm.Value) (st : Jvm.State) : (allAtoms ts).before a st = ts.all (fun c => c.before a st) := by
  induction ts with
  | nil => rfl
  | cons c t ih =>
    show (Jvm.Cond.and c (allAtoms t)).before a st = _
    rw [Jvm.Cond.before_and, ih, List.all_cons]
def words1 : List Jvm.Cond := Jvm.Cond.code x code maxLocals ret :: tables_1
/-- a 'code' word, met by the world's own term for the bytes: nothing is compared byte by byte -/
theorem code_word {y : MethodName} {bytes : ByteArray} {mx : Nat} {rt : Option FieldType} {a : Array Value} {s : State} {m : MethodId} {meth : Method} {c : Code} (h1 : s.methodNamed? y = some m) (h2 : s.vm.method? m = some meth) (h3 : meth.code = some c) (h4 : c.code = bytes)
    (h5 : (c.maxLocals == mx && c.exceptionTable.isEmpty && decide (c.maxStack ≤ mostOperands) && decide (meth.sig.returnType = rt) && !meth.locks && decide (parseMethodDescriptor y.desc = some meth.sig)) = true) : (Jvm.Cond.code y bytes mx rt).before a s = true := by
  simp only [Bool.and_eq_true, beq_iff_eq, Bool.not_eq_true', decide_eq_true_eq] at h5
  obtain ⟨⟨⟨⟨⟨g1, g2⟩, g3⟩, g4⟩, g5⟩, g6⟩ := h5
  simp [Cond.before, Cond.holds, Cond.value, h1, h2, h3, h4, g1, g2, g3, g4, g5, g6]
theorem codeWith_word {y : MethodName} {bytes : ByteArray} {mx : Nat} {rt : Option FieldType} {hs : List (Nat × Nat × Nat × Nat)} {a : Array Value} {s : State} {m : MethodId} {meth : Method} {c : Code} (h1 : s.methodNamed? y = some m) (h2 : s.vm.method? m = some meth) (h3 : meth.code = some c) (h4 : c.code = bytes)
    (h5 : (c.maxLocals == mx && decide (c.exceptionTable.toList.map (fun h => (h.startPc, h.endPc, h.handlerPc, h.catchType)) = hs) && decide (c.maxStack ≤ mostOperands) && decide (meth.sig.returnType = rt) && !meth.locks && decide (parseMethodDescriptor y.desc = some meth.sig)) = true) : (Jvm.Cond.codeWith y bytes mx rt hs).before a s = true := by
  simp only [Bool.and_eq_true, beq_iff_eq, Bool.not_eq_true', decide_eq_true_eq] at h5
  obtain ⟨⟨⟨⟨⟨g1, g2⟩, g3⟩, g4⟩, g5⟩, g6⟩ := h5
  simp only [Cond.before, Cond.holds, Cond.value, h1, h2, h3, Option.bind_some, Option.map_some, Option.any_some, decide_eq_true h4, g1, decide_eq_true g2, decide_eq_true g3, decide_eq_true g4, g5, decide_eq_true g6, beq_self_eq_true, Bool.and_self, Bool.not_false]
def isCode : Jvm.Cond → Bool
  | .code _ _ _ _ => true
  | .codeWith _ _ _ _ _ => true
  | _ => false
theorem all_split {L : List Jvm.Cond} {P : Jvm.Cond → Bool} (h1 : L.all (fun c => isCode c || P c) = true) (h2 : ∀ c ∈ L.filter isCode, P c = true) : L.all P = true := by
  refine List.all_eq_true.mpr fun c hc => ?_
  have h := List.all_eq_true.mp h1 c hc
  rcases Bool.eq_false_or_eq_true (isCode c) with hi | hi
  · exact h2 c (List.mem_filter.mpr ⟨hc, hi⟩)
  · simpa [hi] using h
set_option maxRecDepth 65536 in
theorem w_c0 : (Jvm.Cond.code x code maxLocals ret).before args0 about1 = true := code_word (m := ⟨1, 1⟩) (meth := k1m1) (c := k1c1) (by decide +kernel) rfl rfl rfl (by decide +kernel)
set_option maxRecDepth 65536 in
theorem w_c1 : (Jvm.Cond.code ({ cls := "com/example/longhaul/longhaul/Iso8583AsciiCodec$FieldFormat", name := "<init>", desc := "(Lcom/example/longhaul/longhaul/Iso8583AsciiCodec$LengthKind;I)V" } : Jvm.MethodName) prog_15_method_1_code (3 : Nat) (Option.none : Option Jvm.ClassFile.FieldType)).before args0 about1 = true := code_word (m := ⟨11, 0⟩) (meth := k11m0) (c := k11c0) (by decide +kernel) rfl rfl rfl (by decide +kernel)
set_option maxRecDepth 65536 in
theorem w_c2 : (Jvm.Cond.code ({ cls := "java/lang/Record", name := "<init>", desc := "()V" } : Jvm.MethodName) jdk_30_method_1_code (1 : Nat) (Option.none : Option Jvm.ClassFile.FieldType)).before args0 about1 = true := code_word (m := ⟨10, 0⟩) (meth := k10m0) (c := k10c0) (by decide +kernel) rfl rfl rfl (by decide +kernel)
set_option maxRecDepth 65536 in
theorem w_c3 : (Jvm.Cond.code ({ cls := "java/lang/Object", name := "<init>", desc := "()V" } : Jvm.MethodName) object_method_1_code (1 : Nat) (Option.none : Option Jvm.ClassFile.FieldType)).before args0 about1 = true := code_word (m := ⟨0, 0⟩) (meth := k0m0) (c := k0c0) (by decide +kernel) rfl rfl rfl (by decide +kernel)
set_option maxRecDepth 65536 in
theorem w_c4 : (Jvm.Cond.code ({ cls := "com/example/longhaul/longhaul/Iso8583AsciiCodec$FieldFormat", name := "read", desc := "(I[BI[Ljava/lang/String;I)I" } : Jvm.MethodName) prog_15_method_4_code (9 : Nat) (Option.some Jvm.ClassFile.FieldType.int)).before args0 about1 = true := code_word (m := ⟨11, 1⟩) (meth := k11m1) (c := k11c1) (by decide +kernel) rfl rfl rfl (by decide +kernel)
set_option maxRecDepth 65536 in
theorem w_c5 : (Jvm.Cond.code ({ cls := "java/lang/String", name := "<init>", desc := "([BIILjava/nio/charset/Charset;)V" } : Jvm.MethodName) jdk_42_method_10_code (5 : Nat) (Option.none : Option Jvm.ClassFile.FieldType)).before args0 about1 = true := code_word (m := ⟨9, 1⟩) (meth := k9m1) (c := k9c1) (by decide +kernel) rfl rfl rfl (by decide +kernel)
set_option maxRecDepth 65536 in
theorem w_c6 : (Jvm.Cond.code ({ cls := "java/util/Objects", name := "requireNonNull", desc := "(Ljava/lang/Object;)Ljava/lang/Object;" } : Jvm.MethodName) jdk_31_method_10_code (1 : Nat) (Option.some (Jvm.ClassFile.FieldType.object "java/lang/Object"))).before args0 about1 = true := code_word (m := ⟨13, 1⟩) (meth := k13m1) (c := k13c1) (by decide +kernel) rfl rfl rfl (by decide +kernel)
set_option maxRecDepth 65536 in
theorem w_c7 : (Jvm.Cond.code ({ cls := "java/lang/String", name := "checkBoundsOffCount", desc := "(III)I" } : Jvm.MethodName) jdk_42_method_157_code (3 : Nat) (Option.some Jvm.ClassFile.FieldType.int)).before args0 about1 = true := code_word (m := ⟨9, 8⟩) (meth := k9m8) (c := k9c8) (by decide +kernel) rfl rfl rfl (by decide +kernel)
set_option maxRecDepth 65536 in
theorem w_c8 : (Jvm.Cond.code ({ cls := "jdk/internal/util/Preconditions", name := "checkFromIndexSize", desc := "(IIILjava/util/function/BiFunction;)I" } : Jvm.MethodName) jdk_41_method_13_code (4 : Nat) (Option.some Jvm.ClassFile.FieldType.int)).before args0 about1 = true := code_word (m := ⟨17, 2⟩) (meth := k17m2) (c := k17c2) (by decide +kernel) rfl rfl rfl (by decide +kernel)
set_option maxRecDepth 65536 in
theorem w_c9 : (Jvm.Cond.code ({ cls := "java/lang/StringCoding", name := "hasNegatives", desc := "([BII)Z" } : Jvm.MethodName) jdk_123_method_2_code (3 : Nat) (Option.some Jvm.ClassFile.FieldType.boolean)).before args0 about1 = true := code_word (m := ⟨21, 1⟩) (meth := k21m1) (c := k21c1) (by decide +kernel) rfl rfl rfl (by decide +kernel)
set_option maxRecDepth 65536 in
theorem w_c10 : (Jvm.Cond.code ({ cls := "java/lang/StringCoding", name := "countPositives", desc := "([BII)I" } : Jvm.MethodName) jdk_123_method_3_code (5 : Nat) (Option.some Jvm.ClassFile.FieldType.int)).before args0 about1 = true := code_word (m := ⟨21, 2⟩) (meth := k21m2) (c := k21c2) (by decide +kernel) rfl rfl rfl (by decide +kernel)
set_option maxRecDepth 65536 in
theorem w_c11 : (Jvm.Cond.code ({ cls := "java/util/Arrays", name := "copyOfRange", desc := "([BII)[B" } : Jvm.MethodName) jdk_65_method_132_code (3 : Nat) (Option.some (Jvm.ClassFile.FieldType.array Jvm.ClassFile.FieldType.byte))).before args0 about1 = true := code_word (m := ⟨22, 2⟩) (meth := k22m2) (c := k22c2) (by decide +kernel) rfl rfl rfl (by decide +kernel)
set_option maxRecDepth 65536 in
theorem w_c12 : (Jvm.Cond.code ({ cls := "java/util/Arrays", name := "copyOfRangeByte", desc := "([BII)[B" } : Jvm.MethodName) jdk_65_method_133_code (5 : Nat) (Option.some (Jvm.ClassFile.FieldType.array Jvm.ClassFile.FieldType.byte))).before args0 about1 = true := code_word (m := ⟨22, 3⟩) (meth := k22m3) (c := k22c3) (by decide +kernel) rfl rfl rfl (by decide +kernel)
set_option maxRecDepth 65536 in
theorem w_c13 : (Jvm.Cond.code ({ cls := "java/util/Arrays", name := "checkLength", desc := "(II)V" } : Jvm.MethodName) jdk_65_method_131_code (2 : Nat) (Option.none : Option Jvm.ClassFile.FieldType)).before args0 about1 = true := code_word (m := ⟨22, 1⟩) (meth := k22m1) (c := k22c1) (by decide +kernel) rfl rfl rfl (by decide +kernel)
set_option maxRecDepth 65536 in
theorem w_c14 : (Jvm.Cond.code ({ cls := "java/lang/Math", name := "min", desc := "(II)I" } : Jvm.MethodName) jdk_29_method_69_code (2 : Nat) (Option.some Jvm.ClassFile.FieldType.int)).before args0 about1 = true := code_word (m := ⟨23, 1⟩) (meth := k23m1) (c := k23c1) (by decide +kernel) rfl rfl rfl (by decide +kernel)
set_option maxRecDepth 65536 in
theorem w_c15 : (Jvm.Cond.code ({ cls := "java/lang/String", name := "length", desc := "()I" } : Jvm.MethodName) jdk_42_method_54_code (1 : Nat) (Option.some Jvm.ClassFile.FieldType.int)).before args0 about1 = true := code_word (m := ⟨9, 3⟩) (meth := k9m3) (c := k9c3) (by decide +kernel) rfl rfl rfl (by decide +kernel)
set_option maxRecDepth 65536 in
theorem w_c16 : (Jvm.Cond.code ({ cls := "java/lang/String", name := "coder", desc := "()B" } : Jvm.MethodName) jdk_42_method_152_code (1 : Nat) (Option.some Jvm.ClassFile.FieldType.byte)).before args0 about1 = true := code_word (m := ⟨9, 5⟩) (meth := k9m5) (c := k9c5) (by decide +kernel) rfl rfl rfl (by decide +kernel)
set_option maxRecDepth 65536 in
theorem w_c17 : (Jvm.Cond.code ({ cls := "java/lang/String", name := "charAt", desc := "(I)C" } : Jvm.MethodName) jdk_42_method_56_code (2 : Nat) (Option.some Jvm.ClassFile.FieldType.char)).before args0 about1 = true := code_word (m := ⟨9, 4⟩) (meth := k9m4) (c := k9c4) (by decide +kernel) rfl rfl rfl (by decide +kernel)
set_option maxRecDepth 65536 in
theorem w_c18 : (Jvm.Cond.code ({ cls := "java/lang/String", name := "isLatin1", desc := "()Z" } : Jvm.MethodName) jdk_42_method_154_code (1 : Nat) (Option.some Jvm.ClassFile.FieldType.boolean)).before args0 about1 = true := code_word (m := ⟨9, 6⟩) (meth := k9m6) (c := k9c6) (by decide +kernel) rfl rfl rfl (by decide +kernel)
set_option maxRecDepth 65536 in
theorem w_c19 : (Jvm.Cond.code ({ cls := "java/lang/StringLatin1", name := "charAt", desc := "([BI)C" } : Jvm.MethodName) jdk_43_method_2_code (2 : Nat) (Option.some Jvm.ClassFile.FieldType.char)).before args0 about1 = true := code_word (m := ⟨25, 1⟩) (meth := k25m1) (c := k25c1) (by decide +kernel) rfl rfl rfl (by decide +kernel)
set_option maxRecDepth 65536 in
theorem w_c20 : (Jvm.Cond.code ({ cls := "java/lang/String", name := "checkIndex", desc := "(II)V" } : Jvm.MethodName) jdk_42_method_155_code (2 : Nat) (Option.none : Option Jvm.ClassFile.FieldType)).before args0 about1 = true := code_word (m := ⟨9, 7⟩) (meth := k9m7) (c := k9c7) (by decide +kernel) rfl rfl rfl (by decide +kernel)
set_option maxRecDepth 65536 in
theorem w_c21 : (Jvm.Cond.code ({ cls := "jdk/internal/util/Preconditions", name := "checkIndex", desc := "(IILjava/util/function/BiFunction;)I" } : Jvm.MethodName) jdk_41_method_11_code (3 : Nat) (Option.some Jvm.ClassFile.FieldType.int)).before args0 about1 = true := code_word (m := ⟨17, 1⟩) (meth := k17m1) (c := k17c1) (by decide +kernel) rfl rfl rfl (by decide +kernel)
set_option maxRecDepth 65536 in
theorem w_cW : (Jvm.Cond.codeWith ({ cls := "java/lang/String", name := "<init>", desc := "(Ljava/nio/charset/Charset;[BII)V" } : Jvm.MethodName) jdk_42_method_11_code (11 : Nat) (Option.none : Option Jvm.ClassFile.FieldType) [((800 : Nat), (813 : Nat), (816 : Nat), (202 : Nat))]).before args0 about1 = true := codeWith_word (m := ⟨9, 2⟩) (meth := k9m2) (c := k9c2) (by decide +kernel) rfl rfl rfl (by decide +kernel)
def codes1 : List Jvm.Cond := [Jvm.Cond.code x code maxLocals ret, Jvm.Cond.code ({ cls := "com/example/longhaul/longhaul/Iso8583AsciiCodec$FieldFormat", name := "<init>", desc := "(Lcom/example/longhaul/longhaul/Iso8583AsciiCodec$LengthKind;I)V" } : Jvm.MethodName) prog_15_method_1_code (3 : Nat) (Option.none : Option Jvm.ClassFile.FieldType), Jvm.Cond.code ({ cls := "java/lang/Record", name := "<init>", desc := "()V" } : Jvm.MethodName) jdk_30_method_1_code (1 : Nat) (Option.none : Option Jvm.ClassFile.FieldType), Jvm.Cond.code ({ cls := "java/lang/Object", name := "<init>", desc := "()V" } : Jvm.MethodName) object_method_1_code (1 : Nat) (Option.none : Option Jvm.ClassFile.FieldType), Jvm.Cond.code ({ cls := "com/example/longhaul/longhaul/Iso8583AsciiCodec$FieldFormat", name := "read", desc := "(I[BI[Ljava/lang/String;I)I" } : Jvm.MethodName) prog_15_method_4_code (9 : Nat) (Option.some Jvm.ClassFile.FieldType.int), Jvm.Cond.code ({ cls := "java/lang/String", name := "<init>", desc := "([BIILjava/nio/charset/Charset;)V" } : Jvm.MethodName) jdk_42_method_10_code (5 : Nat) (Option.none : Option Jvm.ClassFile.FieldType), Jvm.Cond.code ({ cls := "java/util/Objects", name := "requireNonNull", desc := "(Ljava/lang/Object;)Ljava/lang/Object;" } : Jvm.MethodName) jdk_31_method_10_code (1 : Nat) (Option.some (Jvm.ClassFile.FieldType.object "java/lang/Object")), Jvm.Cond.code ({ cls := "java/lang/String", name := "checkBoundsOffCount", desc := "(III)I" } : Jvm.MethodName) jdk_42_method_157_code (3 : Nat) (Option.some Jvm.ClassFile.FieldType.int), Jvm.Cond.code ({ cls := "jdk/internal/util/Preconditions", name := "checkFromIndexSize", desc := "(IIILjava/util/function/BiFunction;)I" } : Jvm.MethodName) jdk_41_method_13_code (4 : Nat) (Option.some Jvm.ClassFile.FieldType.int), Jvm.Cond.codeWith ({ cls := "java/lang/String", name := "<init>", desc := "(Ljava/nio/charset/Charset;[BII)V" } : Jvm.MethodName) jdk_42_method_11_code (11 : Nat) (Option.none : Option Jvm.ClassFile.FieldType) [((800 : Nat), (813 : Nat), (816 : Nat), (202 : Nat))], Jvm.Cond.code ({ cls := "java/lang/StringCoding", name := "hasNegatives", desc := "([BII)Z" } : Jvm.MethodName) jdk_123_method_2_code (3 : Nat) (Option.some Jvm.ClassFile.FieldType.boolean), Jvm.Cond.code ({ cls := "java/lang/StringCoding", name := "countPositives", desc := "([BII)I" } : Jvm.MethodName) jdk_123_method_3_code (5 : Nat) (Option.some Jvm.ClassFile.FieldType.int), Jvm.Cond.code ({ cls := "java/util/Arrays", name := "copyOfRange", desc := "([BII)[B" } : Jvm.MethodName) jdk_65_method_132_code (3 : Nat) (Option.some (Jvm.ClassFile.FieldType.array Jvm.ClassFile.FieldType.byte)), Jvm.Cond.code ({ cls := "java/util/Arrays", name := "copyOfRangeByte", desc := "([BII)[B" } : Jvm.MethodName) jdk_65_method_133_code (5 : Nat) (Option.some (Jvm.ClassFile.FieldType.array Jvm.ClassFile.FieldType.byte)), Jvm.Cond.code ({ cls := "java/util/Arrays", name := "checkLength", desc := "(II)V" } : Jvm.MethodName) jdk_65_method_131_code (2 : Nat) (Option.none : Option Jvm.ClassFile.FieldType), Jvm.Cond.code ({ cls := "java/lang/Math", name := "min", desc := "(II)I" } : Jvm.MethodName) jdk_29_method_69_code (2 : Nat) (Option.some Jvm.ClassFile.FieldType.int), Jvm.Cond.code ({ cls := "java/lang/String", name := "length", desc := "()I" } : Jvm.MethodName) jdk_42_method_54_code (1 : Nat) (Option.some Jvm.ClassFile.FieldType.int), Jvm.Cond.code ({ cls := "java/lang/String", name := "coder", desc := "()B" } : Jvm.MethodName) jdk_42_method_152_code (1 : Nat) (Option.some Jvm.ClassFile.FieldType.byte), Jvm.Cond.code ({ cls := "java/lang/String", name := "charAt", desc := "(I)C" } : Jvm.MethodName) jdk_42_method_56_code (2 : Nat) (Option.some Jvm.ClassFile.FieldType.char), Jvm.Cond.code ({ cls := "java/lang/String", name := "isLatin1", desc := "()Z" } : Jvm.MethodName) jdk_42_method_154_code (1 : Nat) (Option.some Jvm.ClassFile.FieldType.boolean), Jvm.Cond.code ({ cls := "java/lang/StringLatin1", name := "charAt", desc := "([BI)C" } : Jvm.MethodName) jdk_43_method_2_code (2 : Nat) (Option.some Jvm.ClassFile.FieldType.char), Jvm.Cond.code ({ cls := "java/lang/String", name := "checkIndex", desc := "(II)V" } : Jvm.MethodName) jdk_42_method_155_code (2 : Nat) (Option.none : Option Jvm.ClassFile.FieldType), Jvm.Cond.code ({ cls := "jdk/internal/util/Preconditions", name := "checkIndex", desc := "(IILjava/util/function/BiFunction;)I" } : Jvm.MethodName) jdk_41_method_11_code (3 : Nat) (Option.some Jvm.ClassFile.FieldType.int)]
set_option maxRecDepth 65536 in
theorem codes_eq : words1.filter isCode = codes1 := rfl
theorem w_codes : ∀ c ∈ words1.filter isCode, c.before args0 about1 = true := by
  rw [codes_eq]
  intro c hc
  simp only [codes1, List.mem_cons, List.not_mem_nil, or_false] at hc
  rcases hc with rfl | rfl | rfl | rfl | rfl | rfl | rfl | rfl | rfl | rfl | rfl | rfl | rfl | rfl | rfl | rfl | rfl | rfl | rfl | rfl | rfl | rfl | rfl
  · exact w_c0
  · exact w_c1
  · exact w_c2
  · exact w_c3
  · exact w_c4
  · exact w_c5
  · exact w_c6
  · exact w_c7
  · exact w_c8
  · exact w_cW
  · exact w_c9
  · exact w_c10
  · exact w_c11
  · exact w_c12
  · exact w_c13
  · exact w_c14
  · exact w_c15
  · exact w_c16
  · exact w_c17
  · exact w_c18
  · exact w_c19
  · exact w_c20
  · exact w_c21
set_option maxRecDepth 65536 in
theorem w_t1 : (words1.take 24).all (fun c => isCode c || c.before args0 about1) = true := by decide +kernel
set_option maxRecDepth 65536 in
theorem w_t2 : ((words1.drop 24).take 24).all (fun c => isCode c || c.before args0 about1) = true := by decide +kernel
set_option maxRecDepth 65536 in
theorem w_t3 : (((words1.drop 24).drop 24).take 24).all (fun c => isCode c || c.before args0 about1) = true := by decide +kernel
set_option maxRecDepth 65536 in
theorem w_t4 : ((((words1.drop 24).drop 24).drop 24).take 24).all (fun c => isCode c || c.before args0 about1) = true := by decide +kernel
set_option maxRecDepth 65536 in
theorem w_t5 : (((((words1.drop 24).drop 24).drop 24).drop 24).take 24).all (fun c => isCode c || c.before args0 about1) = true := by decide +kernel
set_option maxRecDepth 65536 in
theorem w_t6 : (((((words1.drop 24).drop 24).drop 24).drop 24).drop 24).all (fun c => isCode c || c.before args0 about1) = true := by decide +kernel
theorem w_tables : (allAtoms (Jvm.Cond.code x code maxLocals ret :: tables_1)).before args0 about1 = true := by
  rw [allAtoms_all]
  show words1.all (fun c => c.before args0 about1) = true
  refine all_split ?_ w_codes
  rw [← List.take_append_drop 24 words1, List.all_append, w_t1, ← List.take_append_drop 24 (words1.drop 24), List.all_append, w_t2, ← List.take_append_drop 24 ((words1.drop 24).drop 24), List.all_append, w_t3, ← List.take_append_drop 24 (((words1.drop 24).drop 24).drop 24), List.all_append, w_t4, ← List.take_append_drop 24 ((((words1.drop 24).drop 24).drop 24).drop 24), List.all_append, w_t5, w_t6]
  rfl
set_option maxRecDepth 65536 in
theorem w_rest : rest_1_c.before args0 about1 = true := by decide +kernel
set_option maxRecDepth 65536 in
theorem w_case : (Jvm.Cond.and given_1 narrow_1).before args0 about1 = true := by decide +kernel
set_option maxRecDepth 65536 in
theorem w_consts : constsHeld consts_1 about1 := Jvm.Lit.constsHeldB_iff.mp (by decide +kernel)
theorem w_applies : (headSpec (Jvm.Cond.code x code maxLocals ret :: tables_1) room_1).applies x e0.platform about1 = true :=
  (Spec.applies_iff w_frames).mpr ⟨w_running, w_runnable, w_alone, w_named, w_hears, w_ripe, w_room, w_tables⟩
theorem atStart : AtStart classFile x code maxLocals ret World_1 tables_1 room_1 Calls_1 rest_1 Pre_1 launch0 p0 e0 about1 theMethod args0 below0 :=
  ⟨lists_1, trivial, launch0.admits_env _ _ _, launch0.least_env, fairChoices_fair.cas, fairChoices_fair.clock, w_frames, w_args, w_heap, w_applies, ⟨w_consts, trivial⟩, w_rest, w_case⟩
end start1
theorem witness_1 : WitnessClaimed_1 := ⟨start1.p0, start1.e0, start1.about1, start1.theMethod, start1.args0, start1.below0, start1.atStart⟩
end Jvm.Pilot.@@N@@
