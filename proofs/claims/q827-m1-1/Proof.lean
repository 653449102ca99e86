import JvmDerived
import JvmDerived.Pilot.@@N@@Statement
import JvmDerived.Pilot.@@N@@Code
set_option linter.unusedVariables false
set_option linter.unusedSimpArgs false
namespace Jvm.Pilot.@@N@@
open Jvm Jvm.ClassFile Sem Op Lib Jvm.Free Jvm.Stand Jvm.LawKit Jvm.RoadKit Bundle Jvm.Pilot.@@N@@.Jvm.D
/-! ### own kit: a walk in continuation style: Go .. h k n pc Ls st: from heap h, with k cells and n slots made, at pc with locals Ls and stack st, the run comes to its end as F says -/
abbrev Wk : Type := Program × Env × State × MethodId × Array Value × List Frame × Method × Code × Nat
abbrev Wk.p (w : Wk) : Program := w.1
abbrev Wk.e (w : Wk) : Env := w.2.1
abbrev Wk.s (w : Wk) : State := w.2.2.1
abbrev Wk.m (w : Wk) : MethodId := w.2.2.2.1
abbrev Wk.as (w : Wk) : Array Value := w.2.2.2.2.1
abbrev Wk.below (w : Wk) : List Frame := w.2.2.2.2.2.1
abbrev Wk.meth (w : Wk) : Method := w.2.2.2.2.2.2.1
abbrev Wk.c (w : Wk) : Code := w.2.2.2.2.2.2.2.1
abbrev Wk.kk (w : Wk) : Nat := w.2.2.2.2.2.2.2.2
/-- what may be said at the end, of a run that leaves with v -/
def Lv (w : Wk) (R : Room) (n0 : Nat) (Q : Option Value → Heap → Prop) (Y : State → Outcome → Prop) : Prop :=
  ∀ (T : State) (fs : List Frame) (locs : List Loc) (k n : Nat) (v : Option Value), w.s.WarmedH (T.setFrames fs).vm → w.s.sameButNew ({ T.setFrames fs with vm := w.s.vm } : State) locs k n → Fr n0 locs → w.kk ≤ T.heap.size → k ≤ R.cells → n ≤ R.slots → Q v T.heap → Y (T.setFrames fs) (.returned v)
def Nar (w : Wk) (R : Room) (n0 : Nat) (Q : Option Value → Heap → Prop) : State → Outcome → Prop := fun t o => ∃ v L, o = .returned v ∧ (Q v t.heap ∧ Fr n0 L ∧ w.kk ≤ t.heap.size) ∧ FrameEnd w.s o t L R.cells R.slots
theorem Lv.nar (w : Wk) (R : Room) (n0 : Nat) (Q : Option Value → Heap → Prop) : Lv w R n0 Q (Nar w R n0 Q) := fun T fs locs k n v hW hs N hk hc hn hQ => ⟨v, locs, rfl, ⟨hQ, N, hk⟩, ⟨v, rfl⟩, hW, hs.mono hc hn⟩
/-- what stays the same through a body's walk -/
def Cx (w : Wk) (Z : State) (own : String) (bytes : ByteArray) (ml : Nat) (rt : Option FieldType) (nm : String) (R : Room) (n0 : Nat) (Q : Option Value → Heap → Prop) (Y : State → Outcome → Prop) : Prop :=
  w.p.tables.exec = Jvm.exec ∧ w.c.code = bytes ∧ w.c.maxLocals = ml ∧ w.s.vm.findClass own = some w.m.cls ∧ Z.Warmed39 w.s.vm ∧ w.meth.sig.returnType = rt ∧ w.meth.locks = false ∧ w.meth.name = nm ∧ Lv w R n0 Q Y
def Go (w : Wk) (l : Launch) (R : Room) (n0 : Nat) (Y : State → Outcome → Prop) (h : Heap) (k n pc : Nat) (Ls : Array Slot) (st : List Value) : Prop :=
  ∀ (T : State) (locs : List Loc), Stand w.p l w.e R w.s w.m w.as w.below w.meth w.c T locs k n → T.heap = h → n0 ≤ h.size ∧ w.kk ≤ h.size → Fr n0 locs →
    ∃ s₂ o, Steps w.p.tables w.e w.below (T.setTop (mkF w.m pc Ls st)) s₂ ∧ s₂.status = .running ∧ Ended s₂ w.below o ∧ Y s₂ o
def Met (l : Launch) (Z : State) (y : MethodName) (bytes : ByteArray) (ml : Nat) (rt : Option FieldType) (rm : Room) (n0 : Nat) (h0 : Heap) (as' : Array Value) (Q : Option Value → Heap → Prop) : Prop :=
  n0 ≤ h0.size → ∀ ws, MetFree l y (head1 (Jvm.Cond.code y bytes ml rt :: ws) rm) (fun a U => a = as' ∧ Z.Warmed39 U.vm ∧ U.heap = h0) (fun _ _ _ _ _ => True) (fun _ U o U' => ∃ v L, o = .returned v ∧ (Q v U'.heap ∧ Fr n0 L ∧ h0.size ≤ U'.heap.size) ∧ FrameEnd U o U' L rm.cells rm.slots)
section OwnKit
variable {w : Wk} {l : Launch} {R : Room} {Z : State} {a0 : Array Value} {own : String} {bytes : ByteArray} {ml : Nat} {rt : Option FieldType} {nm : String} {n0 : Nat} {Q : Option Value → Heap → Prop} {Y : State → Outcome → Prop} {h : Heap} {k n pc pc' : Nat} {Ls Ls' : Array Slot} {st rest : List Value}
theorem Cx.hx (C : Cx w Z own bytes ml rt nm R n0 Q Y) : w.p.tables.exec = Jvm.exec := C.1
theorem Cx.d (C : Cx w Z own bytes ml rt nm R n0 Q Y) {pc : Nat} {r : Except ClassFile.DecodeError (ClassFile.Instr × Nat)} (hd : decode bytes pc = r) : decode w.c.code pc = r := C.2.1 ▸ hd
theorem Cx.hml (C : Cx w Z own bytes ml rt nm R n0 Q Y) : w.c.maxLocals = ml := C.2.2.1
theorem Cx.hown (C : Cx w Z own bytes ml rt nm R n0 Q Y) : w.s.vm.findClass own = some w.m.cls := C.2.2.2.1
theorem Cx.hZ (C : Cx w Z own bytes ml rt nm R n0 Q Y) : Z.Warmed39 w.s.vm := C.2.2.2.2.1
theorem Cx.ret (C : Cx w Z own bytes ml rt nm R n0 Q Y) : w.meth.sig.returnType = rt := C.2.2.2.2.2.1
theorem Cx.locks (C : Cx w Z own bytes ml rt nm R n0 Q Y) : w.meth.locks = false := C.2.2.2.2.2.2.1
theorem Cx.name (C : Cx w Z own bytes ml rt nm R n0 Q Y) : w.meth.name = nm := C.2.2.2.2.2.2.2.1
theorem Cx.lv (C : Cx w Z own bytes ml rt nm R n0 Q Y) : Lv w R n0 Q Y := C.2.2.2.2.2.2.2.2
theorem Met.intro {y : MethodName} {rm : Room} {h0 : Heap} {as' : Array Value} (hp : plainFor y = true) (hef : ∀ m, entryFrame m as' ml = mkF m 0 Ls [])
    (H : ∀ (w : Wk) (Y : State → Outcome → Prop), Cx w Z y.cls bytes ml rt y.name rm n0 Q Y → Go w l rm n0 Y h0 0 0 0 Ls []) : Met l Z y bytes ml rt rm n0 h0 as' Q := by
  intro hn ws
  refine MetFree.of_bodySF hp hisR ?_
  intro p e s m args below meth c s₁ Bd hml0 hP hK
  obtain ⟨rfl, hZ, hh⟩ := hP
  have X0 : Stand p l e rm s m args below meth c s₁ [] 0 0 := Stand.of_body Bd
  have e0 : s₁.heap = h0 := by rw [← hh, Bd.state]; rfl
  obtain ⟨s₂, o, g1, g2, g3, g4⟩ := H (p, e, s, m, args, below, meth, c, h0.size) _ ⟨Bd.exec, Bd.bytes, hml0, findClass_of_methodNamed Bd.named, hZ, Bd.returns, BodyLoose.notSynchronized Bd, (name_of_methodNamed Bd.named Bd.method).1, Lv.nar _ _ _ _⟩ s₁ [] X0 e0 ⟨hn, Nat.le_refl _⟩ (Fr.nil n0)
  exact ⟨s₂, o, castTop (hef m) g1, g2, g3, g4⟩
theorem Go.plain {st' : List Value} (f : ∀ (T t : State), At T w.m w.c w.below → Steps w.p.tables w.e w.below (T.setTop (mkF w.m pc' Ls' st')) t → Steps w.p.tables w.e w.below (T.setTop (mkF w.m pc Ls st)) t) (G : Go w l R n0 Y h k n pc' Ls' st') : Go w l R n0 Y h k n pc Ls st := by
  intro T locs X hT hn N
  obtain ⟨s₂, o, h1, h2⟩ := G T locs X hT hn N
  exact ⟨s₂, o, f T s₂ X.here h1, h2⟩
theorem Go.stand {st' : List Value} (f : ∀ (T t : State) (locs : List Loc), Stand w.p l w.e R w.s w.m w.as w.below w.meth w.c T locs k n → T.heap = h → Steps w.p.tables w.e w.below (T.setTop (mkF w.m pc' Ls' st')) t → Steps w.p.tables w.e w.below (T.setTop (mkF w.m pc Ls st)) t) (G : Go w l R n0 Y h k n pc' Ls' st') : Go w l R n0 Y h k n pc Ls st := by
  intro T locs X hT hn N
  obtain ⟨s₂, o, h1, h2⟩ := G T locs X hT hn N
  exact ⟨s₂, o, f T s₂ locs X hT h1, h2⟩
theorem Go.size (G : n0 ≤ h.size → Go w l R n0 Y h k n pc Ls st) : Go w l R n0 Y h k n pc Ls st := fun T locs X hT hn N => G hn.1 T locs X hT hn N
theorem own_grow {kk : Nat} {h h' : Heap} (hn : n0 ≤ h.size ∧ kk ≤ h.size) (E : h.size ≤ h'.size) : n0 ≤ h'.size ∧ kk ≤ h'.size := ⟨Nat.le_trans hn.1 E, Nat.le_trans hn.2 E⟩
theorem g_iloadN (C : Cx w Z own bytes ml rt nm R n0 Q Y) {i : Fin 4} {v : Int32} (hd : decode bytes pc = .ok (.iload_n i, 1)) (hp : pc + 1 = pc') (hl : Ls[i.val]? = some (.val (.int v))) (G : Go w l R n0 Y h k n pc' Ls (.int v :: st)) : Go w l R n0 Y h k n pc Ls (st) := by
  subst hp; exact Go.plain (fun T t H K => XS.iloadN H C.hx rfl (C.d hd) hl K) G
theorem g_iload (C : Cx w Z own bytes ml rt nm R n0 Q Y) {i : Nat} {v : Int32} (hd : decode bytes pc = .ok (.iload i, 2)) (hp : pc + 2 = pc') (hl : Ls[i]? = some (.val (.int v))) (G : Go w l R n0 Y h k n pc' Ls (.int v :: st)) : Go w l R n0 Y h k n pc Ls (st) := by
  subst hp; exact Go.plain (fun T t H K => XS.iload H C.hx rfl (C.d hd) hl K) G
theorem g_lloadN (C : Cx w Z own bytes ml rt nm R n0 Q Y) {i : Fin 4} {v : Int64} (hd : decode bytes pc = .ok (.lload_n i, 1)) (hp : pc + 1 = pc') (hl : Ls[i.val]? = some (.val (.long v))) (G : Go w l R n0 Y h k n pc' Ls (.long v :: st)) : Go w l R n0 Y h k n pc Ls (st) := by
  subst hp; exact Go.plain (fun T t H K => XS.lloadN H C.hx rfl (C.d hd) hl K) G
theorem g_lload (C : Cx w Z own bytes ml rt nm R n0 Q Y) {i : Nat} {v : Int64} (hd : decode bytes pc = .ok (.lload i, 2)) (hp : pc + 2 = pc') (hl : Ls[i]? = some (.val (.long v))) (G : Go w l R n0 Y h k n pc' Ls (.long v :: st)) : Go w l R n0 Y h k n pc Ls (st) := by
  subst hp; exact Go.plain (fun T t H K => XS.lload H C.hx rfl (C.d hd) hl K) G
theorem g_aloadN (C : Cx w Z own bytes ml rt nm R n0 Q Y) {i : Fin 4} {v : Value} (hd : decode bytes pc = .ok (.aload_n i, 1)) (hp : pc + 1 = pc') (hl : Ls[i.val]? = some (.val v)) (hv : v.isRef = true) (G : Go w l R n0 Y h k n pc' Ls (v :: st)) : Go w l R n0 Y h k n pc Ls (st) := by
  subst hp; exact Go.plain (fun T t H K => XS.aloadN H C.hx rfl (C.d hd) hl hv K) G
theorem g_aload (C : Cx w Z own bytes ml rt nm R n0 Q Y) {i : Nat} {v : Value} (hd : decode bytes pc = .ok (.aload i, 2)) (hp : pc + 2 = pc') (hl : Ls[i]? = some (.val v)) (hv : v.isRef = true) (G : Go w l R n0 Y h k n pc' Ls (v :: st)) : Go w l R n0 Y h k n pc Ls (st) := by
  subst hp; exact Go.plain (fun T t H K => XS.aload H C.hx rfl (C.d hd) hl hv K) G
theorem g_istoreN (C : Cx w Z own bytes ml rt nm R n0 Q Y) {i : Fin 4} {x : Int32} (hd : decode bytes pc = .ok (.istore_n i, 1)) (hp : pc + 1 = pc') (hl : storeLocals Ls i.val (.int x) = some Ls') (G : Go w l R n0 Y h k n pc' Ls' rest) : Go w l R n0 Y h k n pc Ls (.int x :: rest) := by
  subst hp; exact Go.plain (fun T t H K => XS.istoreN H C.hx rfl (C.d hd) rfl hl K) G
theorem g_istore (C : Cx w Z own bytes ml rt nm R n0 Q Y) {i : Nat} {x : Int32} (hd : decode bytes pc = .ok (.istore i, 2)) (hp : pc + 2 = pc') (hl : storeLocals Ls i (.int x) = some Ls') (G : Go w l R n0 Y h k n pc' Ls' rest) : Go w l R n0 Y h k n pc Ls (.int x :: rest) := by
  subst hp; exact Go.plain (fun T t H K => XS.istore H C.hx rfl (C.d hd) rfl hl K) G
theorem g_lstoreN (C : Cx w Z own bytes ml rt nm R n0 Q Y) {i : Fin 4} {x : Int64} (hd : decode bytes pc = .ok (.lstore_n i, 1)) (hp : pc + 1 = pc') (hl : storeLocals Ls i.val (.long x) = some Ls') (G : Go w l R n0 Y h k n pc' Ls' rest) : Go w l R n0 Y h k n pc Ls (.long x :: rest) := by
  subst hp; exact Go.plain (fun T t H K => XS.lstoreN H C.hx rfl (C.d hd) rfl hl K) G
theorem g_lstore (C : Cx w Z own bytes ml rt nm R n0 Q Y) {i : Nat} {x : Int64} (hd : decode bytes pc = .ok (.lstore i, 2)) (hp : pc + 2 = pc') (hl : storeLocals Ls i (.long x) = some Ls') (G : Go w l R n0 Y h k n pc' Ls' rest) : Go w l R n0 Y h k n pc Ls (.long x :: rest) := by
  subst hp; exact Go.plain (fun T t H K => XS.lstore H C.hx rfl (C.d hd) rfl hl K) G
theorem g_astoreN (C : Cx w Z own bytes ml rt nm R n0 Q Y) {i : Fin 4} {x : Value} (hd : decode bytes pc = .ok (.astore_n i, 1)) (hp : pc + 1 = pc') (hv : x.isRef = true) (hl : storeLocals Ls i.val (x) = some Ls') (G : Go w l R n0 Y h k n pc' Ls' rest) : Go w l R n0 Y h k n pc Ls (x :: rest) := by
  subst hp; exact Go.plain (fun T t H K => XS.astoreN H C.hx rfl (C.d hd) rfl hv hl K) G
theorem g_astore (C : Cx w Z own bytes ml rt nm R n0 Q Y) {i : Nat} {x : Value} (hd : decode bytes pc = .ok (.astore i, 2)) (hp : pc + 2 = pc') (hv : x.isRef = true) (hl : storeLocals Ls i (x) = some Ls') (G : Go w l R n0 Y h k n pc' Ls' rest) : Go w l R n0 Y h k n pc Ls (x :: rest) := by
  subst hp; exact Go.plain (fun T t H K => XS.astore H C.hx rfl (C.d hd) rfl hv hl K) G
theorem g_iconst (C : Cx w Z own bytes ml rt nm R n0 Q Y) {i : Int} {z : Int32} (hd : decode bytes pc = .ok (.iconst i, 1)) (hp : pc + 1 = pc') (hz : Int32.ofInt i = z) (G : Go w l R n0 Y h k n pc' Ls (.int z :: st)) : Go w l R n0 Y h k n pc Ls st := by
  subst hp hz; exact Go.plain (fun T t H K => XS.iconst H C.hx rfl (C.d hd) K) G
theorem g_bipush (C : Cx w Z own bytes ml rt nm R n0 Q Y) {i : Int} {z : Int32} (hd : decode bytes pc = .ok (.bipush i, 2)) (hp : pc + 2 = pc') (hz : (Int8.ofInt i).toInt32 = z) (G : Go w l R n0 Y h k n pc' Ls (.int z :: st)) : Go w l R n0 Y h k n pc Ls st := by
  subst hp hz; exact Go.plain (fun T t H K => XS.bipush H C.hx rfl (C.d hd) K) G
theorem g_sipush (C : Cx w Z own bytes ml rt nm R n0 Q Y) {i : Int} {z : Int32} (hd : decode bytes pc = .ok (.sipush i, 3)) (hp : pc + 3 = pc') (hz : (Int16.ofInt i).toInt32 = z) (G : Go w l R n0 Y h k n pc' Ls (.int z :: st)) : Go w l R n0 Y h k n pc Ls st := by
  subst hp hz; exact Go.plain (fun T t H K => XS.sipush H C.hx rfl (C.d hd) K) G
theorem g_lconst (C : Cx w Z own bytes ml rt nm R n0 Q Y) {i : Fin 2} {z : Int64} (hd : decode bytes pc = .ok (.lconst i, 1)) (hp : pc + 1 = pc') (hz : Int64.ofNat i = z) (G : Go w l R n0 Y h k n pc' Ls (.long z :: st)) : Go w l R n0 Y h k n pc Ls st := by
  subst hp hz; exact Go.plain (fun T t H K => XS.lconst H C.hx rfl (C.d hd) K) G
theorem g_null (C : Cx w Z own bytes ml rt nm R n0 Q Y) (hd : decode bytes pc = .ok (.aconst_null, 1)) (hp : pc + 1 = pc') (G : Go w l R n0 Y h k n pc' Ls (.null :: st)) : Go w l R n0 Y h k n pc Ls (st) := by
  subst hp; exact Go.plain (fun T t H K => XS.aconstNull H C.hx rfl (C.d hd)  K) G
theorem g_iadd (C : Cx w Z own bytes ml rt nm R n0 Q Y) {x y : Int32} (hd : decode bytes pc = .ok (.iadd, 1)) (hp : pc + 1 = pc') (G : Go w l R n0 Y h k n pc' Ls (.int (x + y) :: rest)) : Go w l R n0 Y h k n pc Ls (.int y :: .int x :: rest) := by
  subst hp; exact Go.plain (fun T t H K => XS.iadd H C.hx rfl (C.d hd) rfl K) G
theorem g_isub (C : Cx w Z own bytes ml rt nm R n0 Q Y) {x y : Int32} (hd : decode bytes pc = .ok (.isub, 1)) (hp : pc + 1 = pc') (G : Go w l R n0 Y h k n pc' Ls (.int (x - y) :: rest)) : Go w l R n0 Y h k n pc Ls (.int y :: .int x :: rest) := by
  subst hp; exact Go.plain (fun T t H K => XS.isub H C.hx rfl (C.d hd) rfl K) G
theorem g_imul (C : Cx w Z own bytes ml rt nm R n0 Q Y) {x y : Int32} (hd : decode bytes pc = .ok (.imul, 1)) (hp : pc + 1 = pc') (G : Go w l R n0 Y h k n pc' Ls (.int (x * y) :: rest)) : Go w l R n0 Y h k n pc Ls (.int y :: .int x :: rest) := by
  subst hp; exact Go.plain (fun T t H K => XS.imul H C.hx rfl (C.d hd) rfl K) G
theorem g_iand (C : Cx w Z own bytes ml rt nm R n0 Q Y) {x y : Int32} (hd : decode bytes pc = .ok (.iand, 1)) (hp : pc + 1 = pc') (G : Go w l R n0 Y h k n pc' Ls (.int (x &&& y) :: rest)) : Go w l R n0 Y h k n pc Ls (.int y :: .int x :: rest) := by
  subst hp; exact Go.plain (fun T t H K => XS.iand H C.hx rfl (C.d hd) rfl K) G
theorem g_ior (C : Cx w Z own bytes ml rt nm R n0 Q Y) {x y : Int32} (hd : decode bytes pc = .ok (.ior, 1)) (hp : pc + 1 = pc') (G : Go w l R n0 Y h k n pc' Ls (.int (x ||| y) :: rest)) : Go w l R n0 Y h k n pc Ls (.int y :: .int x :: rest) := by
  subst hp; exact Go.plain (fun T t H K => XS.ior H C.hx rfl (C.d hd) rfl K) G
theorem g_ixor (C : Cx w Z own bytes ml rt nm R n0 Q Y) {x y : Int32} (hd : decode bytes pc = .ok (.ixor, 1)) (hp : pc + 1 = pc') (G : Go w l R n0 Y h k n pc' Ls (.int (x ^^^ y) :: rest)) : Go w l R n0 Y h k n pc Ls (.int y :: .int x :: rest) := by
  subst hp; exact Go.plain (fun T t H K => XS.ixor H C.hx rfl (C.d hd) rfl K) G
theorem g_ishl (C : Cx w Z own bytes ml rt nm R n0 Q Y) {x y : Int32} (hd : decode bytes pc = .ok (.ishl, 1)) (hp : pc + 1 = pc') (G : Go w l R n0 Y h k n pc' Ls (.int (x <<< (y &&& 31)) :: rest)) : Go w l R n0 Y h k n pc Ls (.int y :: .int x :: rest) := by
  subst hp; exact Go.plain (fun T t H K => XS.ishl H C.hx rfl (C.d hd) rfl K) G
theorem g_ishr (C : Cx w Z own bytes ml rt nm R n0 Q Y) {x y : Int32} (hd : decode bytes pc = .ok (.ishr, 1)) (hp : pc + 1 = pc') (G : Go w l R n0 Y h k n pc' Ls (.int (x >>> (y &&& 31)) :: rest)) : Go w l R n0 Y h k n pc Ls (.int y :: .int x :: rest) := by
  subst hp; exact Go.plain (fun T t H K => XS.ishr H C.hx rfl (C.d hd) rfl K) G
theorem g_iushr (C : Cx w Z own bytes ml rt nm R n0 Q Y) {x y : Int32} (hd : decode bytes pc = .ok (.iushr, 1)) (hp : pc + 1 = pc') (G : Go w l R n0 Y h k n pc' Ls (.int ((x.toUInt32 >>> (y &&& 31).toUInt32).toInt32) :: rest)) : Go w l R n0 Y h k n pc Ls (.int y :: .int x :: rest) := by
  subst hp; exact Go.plain (fun T t H K => XS.iushr H C.hx rfl (C.d hd) rfl K) G
theorem g_ladd (C : Cx w Z own bytes ml rt nm R n0 Q Y) {x y : Int64} (hd : decode bytes pc = .ok (.ladd, 1)) (hp : pc + 1 = pc') (G : Go w l R n0 Y h k n pc' Ls (.long (x + y) :: rest)) : Go w l R n0 Y h k n pc Ls (.long y :: .long x :: rest) := by
  subst hp; exact Go.plain (fun T t H K => XS.ladd H C.hx rfl (C.d hd) rfl K) G
theorem g_lsub (C : Cx w Z own bytes ml rt nm R n0 Q Y) {x y : Int64} (hd : decode bytes pc = .ok (.lsub, 1)) (hp : pc + 1 = pc') (G : Go w l R n0 Y h k n pc' Ls (.long (x - y) :: rest)) : Go w l R n0 Y h k n pc Ls (.long y :: .long x :: rest) := by
  subst hp; exact Go.plain (fun T t H K => XS.lsub H C.hx rfl (C.d hd) rfl K) G
theorem g_lmul (C : Cx w Z own bytes ml rt nm R n0 Q Y) {x y : Int64} (hd : decode bytes pc = .ok (.lmul, 1)) (hp : pc + 1 = pc') (G : Go w l R n0 Y h k n pc' Ls (.long (x * y) :: rest)) : Go w l R n0 Y h k n pc Ls (.long y :: .long x :: rest) := by
  subst hp; exact Go.plain (fun T t H K => XS.lmul H C.hx rfl (C.d hd) rfl K) G
theorem g_land (C : Cx w Z own bytes ml rt nm R n0 Q Y) {x y : Int64} (hd : decode bytes pc = .ok (.land, 1)) (hp : pc + 1 = pc') (G : Go w l R n0 Y h k n pc' Ls (.long (x &&& y) :: rest)) : Go w l R n0 Y h k n pc Ls (.long y :: .long x :: rest) := by
  subst hp; exact Go.plain (fun T t H K => XS.land H C.hx rfl (C.d hd) rfl K) G
theorem g_lor (C : Cx w Z own bytes ml rt nm R n0 Q Y) {x y : Int64} (hd : decode bytes pc = .ok (.lor, 1)) (hp : pc + 1 = pc') (G : Go w l R n0 Y h k n pc' Ls (.long (x ||| y) :: rest)) : Go w l R n0 Y h k n pc Ls (.long y :: .long x :: rest) := by
  subst hp; exact Go.plain (fun T t H K => XS.lor H C.hx rfl (C.d hd) rfl K) G
theorem g_lxor (C : Cx w Z own bytes ml rt nm R n0 Q Y) {x y : Int64} (hd : decode bytes pc = .ok (.lxor, 1)) (hp : pc + 1 = pc') (G : Go w l R n0 Y h k n pc' Ls (.long (x ^^^ y) :: rest)) : Go w l R n0 Y h k n pc Ls (.long y :: .long x :: rest) := by
  subst hp; exact Go.plain (fun T t H K => XS.lxor H C.hx rfl (C.d hd) rfl K) G
theorem g_lshl (C : Cx w Z own bytes ml rt nm R n0 Q Y) {x : Int64} {y : Int32} (hd : decode bytes pc = .ok (.lshl, 1)) (hp : pc + 1 = pc') (G : Go w l R n0 Y h k n pc' Ls (.long (x <<< (y &&& 0x3f).toInt64) :: rest)) : Go w l R n0 Y h k n pc Ls (.int y :: .long x :: rest) := by
  subst hp; exact Go.plain (fun T t H K => XS.lshl H C.hx rfl (C.d hd) rfl K) G
theorem g_lshr (C : Cx w Z own bytes ml rt nm R n0 Q Y) {x : Int64} {y : Int32} (hd : decode bytes pc = .ok (.lshr, 1)) (hp : pc + 1 = pc') (G : Go w l R n0 Y h k n pc' Ls (.long (x >>> (y &&& 0x3f).toInt64) :: rest)) : Go w l R n0 Y h k n pc Ls (.int y :: .long x :: rest) := by
  subst hp; exact Go.plain (fun T t H K => XS.lshr H C.hx rfl (C.d hd) rfl K) G
theorem g_lushr (C : Cx w Z own bytes ml rt nm R n0 Q Y) {x : Int64} {y : Int32} (hd : decode bytes pc = .ok (.lushr, 1)) (hp : pc + 1 = pc') (G : Go w l R n0 Y h k n pc' Ls (.long ((x.toUInt64 >>> (y &&& 0x3f).toInt64.toUInt64).toInt64) :: rest)) : Go w l R n0 Y h k n pc Ls (.int y :: .long x :: rest) := by
  subst hp; exact Go.plain (fun T t H K => XS.lushr H C.hx rfl (C.d hd) rfl K) G
theorem g_idiv (C : Cx w Z own bytes ml rt nm R n0 Q Y) {x y : Int32} (hd : decode bytes pc = .ok (.idiv, 1)) (hp : pc + 1 = pc') (hy : y ≠ 0) (G : Go w l R n0 Y h k n pc' Ls (.int (x / y) :: rest)) : Go w l R n0 Y h k n pc Ls (.int y :: .int x :: rest) := by
  subst hp; exact Go.plain (fun T t H K => XS.idiv H C.hx rfl (C.d hd) rfl hy K) G
theorem g_irem (C : Cx w Z own bytes ml rt nm R n0 Q Y) {x y : Int32} (hd : decode bytes pc = .ok (.irem, 1)) (hp : pc + 1 = pc') (hy : y ≠ 0) (G : Go w l R n0 Y h k n pc' Ls (.int (x % y) :: rest)) : Go w l R n0 Y h k n pc Ls (.int y :: .int x :: rest) := by
  subst hp; exact Go.stand (fun T t locs X hT K => iremM X C.hx rfl (C.d hd) rfl hy K) G
theorem g_lcmp (C : Cx w Z own bytes ml rt nm R n0 Q Y) {x y : Int64} (hd : decode bytes pc = .ok (.lcmp, 1)) (hp : pc + 1 = pc') (G : Go w l R n0 Y h k n pc' Ls (.int (lcmpW x y) :: rest)) : Go w l R n0 Y h k n pc Ls (.long y :: .long x :: rest) := by
  subst hp; exact Go.plain (fun T t H K => XS.lcmp H C.hx rfl (C.d hd) rfl K) G
theorem g_ineg (C : Cx w Z own bytes ml rt nm R n0 Q Y) {v : Int32} (hd : decode bytes pc = .ok (.ineg, 1)) (hp : pc + 1 = pc') (G : Go w l R n0 Y h k n pc' Ls (.int (-v) :: rest)) : Go w l R n0 Y h k n pc Ls (.int v :: rest) := by
  subst hp; exact Go.plain (fun T t H K => XS.ineg H C.hx rfl (C.d hd) rfl K) G
theorem g_lneg (C : Cx w Z own bytes ml rt nm R n0 Q Y) {v : Int64} (hd : decode bytes pc = .ok (.lneg, 1)) (hp : pc + 1 = pc') (G : Go w l R n0 Y h k n pc' Ls (.long (-v) :: rest)) : Go w l R n0 Y h k n pc Ls (.long v :: rest) := by
  subst hp; exact Go.plain (fun T t H K => XS.lneg H C.hx rfl (C.d hd) rfl K) G
theorem g_i2l (C : Cx w Z own bytes ml rt nm R n0 Q Y) {v : Int32} (hd : decode bytes pc = .ok (.i2l, 1)) (hp : pc + 1 = pc') (G : Go w l R n0 Y h k n pc' Ls (.long (v.toInt64) :: rest)) : Go w l R n0 Y h k n pc Ls (.int v :: rest) := by
  subst hp; exact Go.plain (fun T t H K => XS.i2l H C.hx rfl (C.d hd) rfl K) G
theorem g_l2i (C : Cx w Z own bytes ml rt nm R n0 Q Y) {v : Int64} (hd : decode bytes pc = .ok (.l2i, 1)) (hp : pc + 1 = pc') (G : Go w l R n0 Y h k n pc' Ls (.int (v.toInt32) :: rest)) : Go w l R n0 Y h k n pc Ls (.long v :: rest) := by
  subst hp; exact Go.plain (fun T t H K => XS.l2i H C.hx rfl (C.d hd) rfl K) G
theorem g_i2b (C : Cx w Z own bytes ml rt nm R n0 Q Y) {v : Int32} (hd : decode bytes pc = .ok (.i2b, 1)) (hp : pc + 1 = pc') (G : Go w l R n0 Y h k n pc' Ls (.int (v.toInt8.toInt32) :: rest)) : Go w l R n0 Y h k n pc Ls (.int v :: rest) := by
  subst hp; exact Go.plain (fun T t H K => XS.i2b H C.hx rfl (C.d hd) rfl K) G
theorem g_i2s (C : Cx w Z own bytes ml rt nm R n0 Q Y) {v : Int32} (hd : decode bytes pc = .ok (.i2s, 1)) (hp : pc + 1 = pc') (G : Go w l R n0 Y h k n pc' Ls (.int (v.toInt16.toInt32) :: rest)) : Go w l R n0 Y h k n pc Ls (.int v :: rest) := by
  subst hp; exact Go.plain (fun T t H K => XS.i2s H C.hx rfl (C.d hd) rfl K) G
theorem g_i2c (C : Cx w Z own bytes ml rt nm R n0 Q Y) {v : Int32} (hd : decode bytes pc = .ok (.i2c, 1)) (hp : pc + 1 = pc') (G : Go w l R n0 Y h k n pc' Ls (.int (v.toUInt32.toUInt16.toUInt32.toInt32) :: rest)) : Go w l R n0 Y h k n pc Ls (.int v :: rest) := by
  subst hp; exact Go.plain (fun T t H K => XS.i2c H C.hx rfl (C.d hd) rfl K) G
theorem g_dup (C : Cx w Z own bytes ml rt nm R n0 Q Y) {x : Value} (hd : decode bytes pc = .ok (.dup, 1)) (hp : pc + 1 = pc') (hc : x.category = 1) (G : Go w l R n0 Y h k n pc' Ls (x :: x :: rest)) : Go w l R n0 Y h k n pc Ls (x :: rest) := by
  subst hp; exact Go.plain (fun T t H K => XS.dup H C.hx rfl (C.d hd) rfl hc K) G
theorem g_dupX1 (C : Cx w Z own bytes ml rt nm R n0 Q Y) {x y : Value} (hd : decode bytes pc = .ok (.dup_x1, 1)) (hp : pc + 1 = pc') (hc : x.category = 1) (hc2 : y.category = 1) (G : Go w l R n0 Y h k n pc' Ls (x :: y :: x :: rest)) : Go w l R n0 Y h k n pc Ls (x :: y :: rest) := by
  subst hp; exact Go.plain (fun T t H K => XS.dupX1 H C.hx rfl (C.d hd) rfl hc hc2 K) G
theorem g_pop (C : Cx w Z own bytes ml rt nm R n0 Q Y) {x : Value} (hd : decode bytes pc = .ok (.pop, 1)) (hp : pc + 1 = pc') (hc : x.category = 1) (G : Go w l R n0 Y h k n pc' Ls (rest)) : Go w l R n0 Y h k n pc Ls (x :: rest) := by
  subst hp; exact Go.plain (fun T t H K => XS.pop H C.hx rfl (C.d hd) rfl hc K) G
theorem g_iinc (C : Cx w Z own bytes ml rt nm R n0 Q Y) {i : Nat} {d : Int} {x : Int32} (hd : decode bytes pc = .ok (.iinc i d, 3)) (hp : pc + 3 = pc') (hl : Ls[i]? = some (.val (.int x))) {z : Int32} (hz : x + Int32.ofInt d = z) (hl' : storeLocals Ls i (.int z) = some Ls') (G : Go w l R n0 Y h k n pc' Ls' st) : Go w l R n0 Y h k n pc Ls st := by
  subst hp hz; exact Go.plain (fun T t H K => XS.iinc H C.hx rfl (C.d hd) hl hl' K) G
theorem g_goto (C : Cx w Z own bytes ml rt nm R n0 Q Y) {o : Int} (hd : decode bytes pc = .ok (.goto o, 3)) (ho : 0 ≤ (pc : Int) + o) (hp : ((pc : Int) + o).toNat = pc') (G : Go w l R n0 Y h k n pc' Ls st) : Go w l R n0 Y h k n pc Ls st :=
  Go.plain (fun T t H K => XS.goto H C.hx rfl (pc0 := pc) rfl (C.d hd) ho hp K) G
theorem g_icmp_lt (C : Cx w Z own bytes ml rt nm R n0 Q Y) {o : Int} {x y : Int32} {pcN : Nat} (hd : decode bytes pc = .ok (.if_icmp .lt o, 3)) (ho : 0 ≤ (pc : Int) + o) (hp : ((pc : Int) + o).toNat = pc') (hq : pc + 3 = pcN) (G : x < y → Go w l R n0 Y h k n pc' Ls rest) (G' : ¬ x < y → Go w l R n0 Y h k n pcN Ls rest) : Go w l R n0 Y h k n pc Ls (.int y :: .int x :: rest) := by
  subst hq
  by_cases q : x < y
  · exact Go.plain (fun T t H K => XS.icmpYes H C.hx rfl (pc0 := pc) rfl (C.d hd) rfl (tlt q).1 ho hp K) (G q)
  · exact Go.plain (fun T t H K => XS.icmpNo H C.hx rfl (C.d hd) rfl (flt q).1 K) (G' q)
theorem g_if_lt (C : Cx w Z own bytes ml rt nm R n0 Q Y) {o : Int} {x : Int32} {pcN : Nat} (hd : decode bytes pc = .ok (.ifCond .lt o, 3)) (ho : 0 ≤ (pc : Int) + o) (hp : ((pc : Int) + o).toNat = pc') (hq : pc + 3 = pcN) (G : x < 0 → Go w l R n0 Y h k n pc' Ls rest) (G' : ¬ x < 0 → Go w l R n0 Y h k n pcN Ls rest) : Go w l R n0 Y h k n pc Ls (.int x :: rest) := by
  subst hq
  by_cases q : x < 0
  · exact Go.plain (fun T t H K => XS.ifYes H C.hx rfl (pc0 := pc) rfl (C.d hd) rfl ((if0 _ _).trans (tlt q).1) ho hp K) (G q)
  · exact Go.plain (fun T t H K => XS.ifNo H C.hx rfl (C.d hd) rfl ((if0 _ _).trans (flt q).1) K) (G' q)
theorem g_icmp_ge (C : Cx w Z own bytes ml rt nm R n0 Q Y) {o : Int} {x y : Int32} {pcN : Nat} (hd : decode bytes pc = .ok (.if_icmp .ge o, 3)) (ho : 0 ≤ (pc : Int) + o) (hp : ((pc : Int) + o).toNat = pc') (hq : pc + 3 = pcN) (G : ¬ x < y → Go w l R n0 Y h k n pc' Ls rest) (G' : x < y → Go w l R n0 Y h k n pcN Ls rest) : Go w l R n0 Y h k n pc Ls (.int y :: .int x :: rest) := by
  subst hq
  by_cases q : x < y
  · exact Go.plain (fun T t H K => XS.icmpNo H C.hx rfl (C.d hd) rfl (tlt q).2.1 K) (G' q)
  · exact Go.plain (fun T t H K => XS.icmpYes H C.hx rfl (pc0 := pc) rfl (C.d hd) rfl (flt q).2.1 ho hp K) (G q)
theorem g_if_ge (C : Cx w Z own bytes ml rt nm R n0 Q Y) {o : Int} {x : Int32} {pcN : Nat} (hd : decode bytes pc = .ok (.ifCond .ge o, 3)) (ho : 0 ≤ (pc : Int) + o) (hp : ((pc : Int) + o).toNat = pc') (hq : pc + 3 = pcN) (G : ¬ x < 0 → Go w l R n0 Y h k n pc' Ls rest) (G' : x < 0 → Go w l R n0 Y h k n pcN Ls rest) : Go w l R n0 Y h k n pc Ls (.int x :: rest) := by
  subst hq
  by_cases q : x < 0
  · exact Go.plain (fun T t H K => XS.ifNo H C.hx rfl (C.d hd) rfl ((if0 _ _).trans (tlt q).2.1) K) (G' q)
  · exact Go.plain (fun T t H K => XS.ifYes H C.hx rfl (pc0 := pc) rfl (C.d hd) rfl ((if0 _ _).trans (flt q).2.1) ho hp K) (G q)
theorem g_icmp_gt (C : Cx w Z own bytes ml rt nm R n0 Q Y) {o : Int} {x y : Int32} {pcN : Nat} (hd : decode bytes pc = .ok (.if_icmp .gt o, 3)) (ho : 0 ≤ (pc : Int) + o) (hp : ((pc : Int) + o).toNat = pc') (hq : pc + 3 = pcN) (G : y < x → Go w l R n0 Y h k n pc' Ls rest) (G' : ¬ y < x → Go w l R n0 Y h k n pcN Ls rest) : Go w l R n0 Y h k n pc Ls (.int y :: .int x :: rest) := by
  subst hq
  by_cases q : y < x
  · exact Go.plain (fun T t H K => XS.icmpYes H C.hx rfl (pc0 := pc) rfl (C.d hd) rfl (tlt q).2.2.1 ho hp K) (G q)
  · exact Go.plain (fun T t H K => XS.icmpNo H C.hx rfl (C.d hd) rfl (flt q).2.2.1 K) (G' q)
theorem g_if_gt (C : Cx w Z own bytes ml rt nm R n0 Q Y) {o : Int} {x : Int32} {pcN : Nat} (hd : decode bytes pc = .ok (.ifCond .gt o, 3)) (ho : 0 ≤ (pc : Int) + o) (hp : ((pc : Int) + o).toNat = pc') (hq : pc + 3 = pcN) (G : 0 < x → Go w l R n0 Y h k n pc' Ls rest) (G' : ¬ 0 < x → Go w l R n0 Y h k n pcN Ls rest) : Go w l R n0 Y h k n pc Ls (.int x :: rest) := by
  subst hq
  by_cases q : 0 < x
  · exact Go.plain (fun T t H K => XS.ifYes H C.hx rfl (pc0 := pc) rfl (C.d hd) rfl ((if0 _ _).trans (tlt q).2.2.1) ho hp K) (G q)
  · exact Go.plain (fun T t H K => XS.ifNo H C.hx rfl (C.d hd) rfl ((if0 _ _).trans (flt q).2.2.1) K) (G' q)
theorem g_icmp_le (C : Cx w Z own bytes ml rt nm R n0 Q Y) {o : Int} {x y : Int32} {pcN : Nat} (hd : decode bytes pc = .ok (.if_icmp .le o, 3)) (ho : 0 ≤ (pc : Int) + o) (hp : ((pc : Int) + o).toNat = pc') (hq : pc + 3 = pcN) (G : ¬ y < x → Go w l R n0 Y h k n pc' Ls rest) (G' : y < x → Go w l R n0 Y h k n pcN Ls rest) : Go w l R n0 Y h k n pc Ls (.int y :: .int x :: rest) := by
  subst hq
  by_cases q : y < x
  · exact Go.plain (fun T t H K => XS.icmpNo H C.hx rfl (C.d hd) rfl (tlt q).2.2.2 K) (G' q)
  · exact Go.plain (fun T t H K => XS.icmpYes H C.hx rfl (pc0 := pc) rfl (C.d hd) rfl (flt q).2.2.2 ho hp K) (G q)
theorem g_if_le (C : Cx w Z own bytes ml rt nm R n0 Q Y) {o : Int} {x : Int32} {pcN : Nat} (hd : decode bytes pc = .ok (.ifCond .le o, 3)) (ho : 0 ≤ (pc : Int) + o) (hp : ((pc : Int) + o).toNat = pc') (hq : pc + 3 = pcN) (G : ¬ 0 < x → Go w l R n0 Y h k n pc' Ls rest) (G' : 0 < x → Go w l R n0 Y h k n pcN Ls rest) : Go w l R n0 Y h k n pc Ls (.int x :: rest) := by
  subst hq
  by_cases q : 0 < x
  · exact Go.plain (fun T t H K => XS.ifNo H C.hx rfl (C.d hd) rfl ((if0 _ _).trans (tlt q).2.2.2) K) (G' q)
  · exact Go.plain (fun T t H K => XS.ifYes H C.hx rfl (pc0 := pc) rfl (C.d hd) rfl ((if0 _ _).trans (flt q).2.2.2) ho hp K) (G q)
theorem g_icmp_eq (C : Cx w Z own bytes ml rt nm R n0 Q Y) {o : Int} {x y : Int32} {pcN : Nat} (hd : decode bytes pc = .ok (.if_icmp .eq o, 3)) (ho : 0 ≤ (pc : Int) + o) (hp : ((pc : Int) + o).toNat = pc') (hq : pc + 3 = pcN) (G : x = y → Go w l R n0 Y h k n pc' Ls rest) (G' : ¬ x = y → Go w l R n0 Y h k n pcN Ls rest) : Go w l R n0 Y h k n pc Ls (.int y :: .int x :: rest) := by
  subst hq
  by_cases q : x = y
  · exact Go.plain (fun T t H K => XS.icmpYes H C.hx rfl (pc0 := pc) rfl (C.d hd) rfl (teq q).1 ho hp K) (G q)
  · exact Go.plain (fun T t H K => XS.icmpNo H C.hx rfl (C.d hd) rfl (feq q).1 K) (G' q)
theorem g_if_eq (C : Cx w Z own bytes ml rt nm R n0 Q Y) {o : Int} {x : Int32} {pcN : Nat} (hd : decode bytes pc = .ok (.ifCond .eq o, 3)) (ho : 0 ≤ (pc : Int) + o) (hp : ((pc : Int) + o).toNat = pc') (hq : pc + 3 = pcN) (G : x = 0 → Go w l R n0 Y h k n pc' Ls rest) (G' : ¬ x = 0 → Go w l R n0 Y h k n pcN Ls rest) : Go w l R n0 Y h k n pc Ls (.int x :: rest) := by
  subst hq
  by_cases q : x = 0
  · exact Go.plain (fun T t H K => XS.ifYes H C.hx rfl (pc0 := pc) rfl (C.d hd) rfl ((if0 _ _).trans (teq q).1) ho hp K) (G q)
  · exact Go.plain (fun T t H K => XS.ifNo H C.hx rfl (C.d hd) rfl ((if0 _ _).trans (feq q).1) K) (G' q)
theorem g_icmp_ne (C : Cx w Z own bytes ml rt nm R n0 Q Y) {o : Int} {x y : Int32} {pcN : Nat} (hd : decode bytes pc = .ok (.if_icmp .ne o, 3)) (ho : 0 ≤ (pc : Int) + o) (hp : ((pc : Int) + o).toNat = pc') (hq : pc + 3 = pcN) (G : ¬ x = y → Go w l R n0 Y h k n pc' Ls rest) (G' : x = y → Go w l R n0 Y h k n pcN Ls rest) : Go w l R n0 Y h k n pc Ls (.int y :: .int x :: rest) := by
  subst hq
  by_cases q : x = y
  · exact Go.plain (fun T t H K => XS.icmpNo H C.hx rfl (C.d hd) rfl (teq q).2 K) (G' q)
  · exact Go.plain (fun T t H K => XS.icmpYes H C.hx rfl (pc0 := pc) rfl (C.d hd) rfl (feq q).2 ho hp K) (G q)
theorem g_if_ne (C : Cx w Z own bytes ml rt nm R n0 Q Y) {o : Int} {x : Int32} {pcN : Nat} (hd : decode bytes pc = .ok (.ifCond .ne o, 3)) (ho : 0 ≤ (pc : Int) + o) (hp : ((pc : Int) + o).toNat = pc') (hq : pc + 3 = pcN) (G : ¬ x = 0 → Go w l R n0 Y h k n pc' Ls rest) (G' : x = 0 → Go w l R n0 Y h k n pcN Ls rest) : Go w l R n0 Y h k n pc Ls (.int x :: rest) := by
  subst hq
  by_cases q : x = 0
  · exact Go.plain (fun T t H K => XS.ifNo H C.hx rfl (C.d hd) rfl ((if0 _ _).trans (teq q).2) K) (G' q)
  · exact Go.plain (fun T t H K => XS.ifYes H C.hx rfl (pc0 := pc) rfl (C.d hd) rfl ((if0 _ _).trans (feq q).2) ho hp K) (G q)
theorem g_ifnullY (C : Cx w Z own bytes ml rt nm R n0 Q Y) {o : Int} (hd : decode bytes pc = .ok (.ifnull o, 3)) (ho : 0 ≤ (pc : Int) + o) (hp : ((pc : Int) + o).toNat = pc') (G : Go w l R n0 Y h k n pc' Ls rest) : Go w l R n0 Y h k n pc Ls (.null :: rest) := Go.plain (fun T t H K => XS.ifnullYes H C.hx rfl (pc0 := pc) rfl (C.d hd) rfl ho hp K) G
theorem g_ifnullN (C : Cx w Z own bytes ml rt nm R n0 Q Y) {o : Int} {b : Addr} (hd : decode bytes pc = .ok (.ifnull o, 3)) (hp : pc + 3 = pc') (G : Go w l R n0 Y h k n pc' Ls rest) : Go w l R n0 Y h k n pc Ls (.ref b :: rest) := by subst hp; exact Go.plain (fun T t H K => XS.ifnullNo H C.hx rfl (C.d hd) rfl K) G
theorem g_ifnonnullY (C : Cx w Z own bytes ml rt nm R n0 Q Y) {o : Int} {b : Addr} (hd : decode bytes pc = .ok (.ifnonnull o, 3)) (ho : 0 ≤ (pc : Int) + o) (hp : ((pc : Int) + o).toNat = pc') (G : Go w l R n0 Y h k n pc' Ls rest) : Go w l R n0 Y h k n pc Ls (.ref b :: rest) := Go.plain (fun T t H K => XS.ifnonnullYes H C.hx rfl (pc0 := pc) rfl (C.d hd) rfl ho hp K) G
theorem g_ifnonnullN (C : Cx w Z own bytes ml rt nm R n0 Q Y) {o : Int} (hd : decode bytes pc = .ok (.ifnonnull o, 3)) (hp : pc + 3 = pc') (G : Go w l R n0 Y h k n pc' Ls rest) : Go w l R n0 Y h k n pc Ls (.null :: rest) := by subst hp; exact Go.plain (fun T t H K => XS.ifnonnullNo H C.hx rfl (C.d hd) rfl K) G
theorem g_acmp (C : Cx w Z own bytes ml rt nm R n0 Q Y) {cd : ACond} {o : Int} {x y : Value} (h1 : x.isRef = true) (h2 : y.isRef = true) (same : Bool) (hd : decode bytes pc = .ok (.if_acmp cd o, 3)) (ho : 0 ≤ (pc : Int) + o) (hs : decide (x = y) = same) (hp : pc' = if acV cd same = true then ((pc : Int) + o).toNat else pc + 3) (G : Go w l R n0 Y h k n pc' Ls rest) : Go w l R n0 Y h k n pc Ls (y :: x :: rest) :=
  Go.stand (fun T t locs X hT K => Jvm.RoadKit.acmp (g := mkF w.m pc Ls (y :: x :: rest)) X C.hx rfl h1 h2 (pc0 := pc) rfl (C.d hd) rfl hs ho hp K) G
theorem g_ldcI (C : Cx w Z own bytes ml rt nm R n0 Q Y) {i : Nat} {v : Int32} (w1 : (Jvm.Cond.constant own i v).before a0 Z = true) (hd : decode bytes pc = .ok (.ldc i, 2)) (hp : pc + 2 = pc') (G : Go w l R n0 Y h k n pc' Ls (.int v :: st)) : Go w l R n0 Y h k n pc Ls st := by
  subst hp; exact Go.stand (fun T t locs X hT K => X.ldcInt C.hx C.hown (mvT C.hZ w1) (g := mkF w.m pc Ls st) rfl (C.d hd) _ K) G
theorem g_ldc2J (C : Cx w Z own bytes ml rt nm R n0 Q Y) {i : Nat} {v : Int64} (w1 : (Jvm.Cond.constantLong own i v).before a0 Z = true) (hd : decode bytes pc = .ok (.ldc2_w i, 3)) (hp : pc + 3 = pc') (G : Go w l R n0 Y h k n pc' Ls (.long v :: st)) : Go w l R n0 Y h k n pc Ls st := by
  subst hp; exact Go.stand (fun T t locs X hT K => X.ldc2Long C.hx C.hown (mvT C.hZ w1) (g := mkF w.m pc Ls st) rfl (C.d hd) _ K) G
theorem Go.leave {v : Option Value} (L : Lv w R n0 Q Y) (hv : w.meth.sig.returnType = none → v = none) (hlk : w.meth.locks = false) (hQ : Q v h) (hc : k ≤ R.cells) (hs : n ≤ R.slots)
    (f : ∀ (T : State) (locs : List Loc) (fs : List Frame), Stand w.p l w.e R w.s w.m w.as w.below w.meth w.c T locs k n → (∀ (f : JFrame) (acts : List Action), f.method = w.m → f.locked = none → f.entered = [] → (doReturn w.e (T.setTop f) acts v).1 = T.setFrames fs) → Steps w.p.tables w.e w.below (T.setTop (mkF w.m pc Ls st)) (T.setFrames fs)) : Go w l R n0 Y h k n pc Ls st := by
  intro T locs X hT hn N
  obtain ⟨fs, hr, hrun, hended, hW, hsame⟩ := X.leave (v := v) hv hlk
  exact ⟨_, _, f T locs fs X hr, hrun, hended, L T fs locs k n v hW hsame N (by rw [hT]; exact hn.2) hc hs (by rw [hT]; exact hQ)⟩
theorem g_ret (C : Cx w Z own bytes ml rt nm R n0 Q Y) (hr : rt = none) (hd : decode bytes pc = .ok (.return_, 1)) (hQ : Q none h) (hc : k ≤ R.cells) (hs : n ≤ R.slots) : Go w l R n0 Y h k n pc Ls [] :=
  Go.leave C.lv (v := none) (fun _ => rfl) C.locks hQ hc hs (fun T locs fs X hl => X.returnOut C.hx (C.ret.trans hr) (C.d hd) hl)
theorem g_retI (C : Cx w Z own bytes ml rt nm R n0 Q Y) (hr : rt = some .int) (hd : decode bytes pc = .ok (.ireturn, 1)) {z : Int32} (hQ : Q (some (.int z)) h) (hc : k ≤ R.cells) (hs : n ≤ R.slots) : Go w l R n0 Y h k n pc Ls [.int z] :=
  Go.leave C.lv (v := some (.int z)) (fun q => by rw [C.ret, hr] at q; cases q) C.locks hQ hc hs (fun T locs fs X hl => X.ireturnOut C.hx (t := .int) (C.ret.trans hr) rfl (Or.inl rfl) (C.d hd) hl)
theorem g_retN (C : Cx w Z own bytes ml rt nm R n0 Q Y) {t : FieldType} (hr : rt = some t) (ht : t = .boolean ∨ t = .byte ∨ t = .char ∨ t = .short) (hd : decode bytes pc = .ok (.ireturn, 1)) {z : Int32} (hQ : Q (some (.int (nar t z))) h) (hc : k ≤ R.cells) (hs : n ≤ R.slots) : Go w l R n0 Y h k n pc Ls (.int z :: rest) :=
  Go.leave C.lv (v := some (.int (nar t z))) (fun q => by rw [C.ret, hr] at q; cases q) C.locks hQ hc hs (fun T locs fs X hl => retN X C.hx (C.ret.trans hr) ht (C.d hd) hl)
theorem g_retA (C : Cx w Z own bytes ml rt nm R n0 Q Y) {t : FieldType} {v : Value} (hv : v.isRef = true) (hr : rt = some t) (ht : t.isReference = true) (hd : decode bytes pc = .ok (.areturn, 1)) (hQ : Q (some v) h) (hc : k ≤ R.cells) (hs : n ≤ R.slots) : Go w l R n0 Y h k n pc Ls [v] :=
  Go.leave C.lv (v := some v) (fun q => by rw [C.ret, hr] at q; cases q) C.locks hQ hc hs (fun T locs fs X hl => X.areturnOut C.hx hv (C.ret.trans hr) ht (C.d hd) hl)
theorem g_retL (C : Cx w Z own bytes ml rt nm R n0 Q Y) (hr : rt = some .long) (hd : decode bytes pc = .ok (.lreturn, 1)) {z : Int64} (hQ : Q (some (.long z)) h) (hc : k ≤ R.cells) (hs : n ≤ R.slots) : Go w l R n0 Y h k n pc Ls (.long z :: rest) :=
  Go.leave C.lv (v := some (.long z)) (fun q => by rw [C.ret, hr] at q; cases q) C.locks hQ hc hs (fun T locs fs X hl => by
    have hx := C.hx
    have hd' := C.d hd
    have hr' := C.ret.trans hr
    jvm_step X.here [X.here.top, hx, hd', X.method', hr', narrow]
    first | (intro acts; rw [hl _ acts rfl rfl rfl]) | rw [hl _ _ rfl rfl rfl]
    exact Steps.refl _)
/-- an array by a function of its places -/
def Arf (Z : State) (h : Heap) (a : Addr) (ad : String) (ty : FieldType) (z : Int32) (f : Nat → Value) : Prop := Exa Z h a ad ∧ ∃ c : Cell, Arr Z h a c ty ∧ c.slots.size = z.toNatClampNeg ∧ ¬ z < 0 ∧ ∀ i, i < c.slots.size → c.slots[i]? = some (f i) ∧ fits ty (f i) = true
def upd (f : Nat → Value) (j : Nat) (v : Value) : Nat → Value := fun i => if i = j then v else f i
theorem upd_same (f : Nat → Value) (j : Nat) (v : Value) : upd f j v j = v := by simp [upd]
theorem upd_other {f : Nat → Value} {j i : Nat} {v : Value} (q : i ≠ j) : upd f j v i = f i := by simp [upd, q]
variable {a b : Addr} {ad : String} {ty : FieldType} {z : Int32} {f : Nat → Value} {h' : Heap}
theorem Arf.lt (F : Arf Z h a ad ty z f) : a < h.size := F.1.lt
theorem Arf.exa (F : Arf Z h a ad ty z f) : Exa Z h a ad := F.1
theorem Arf.ext (F : Arf Z h a ad ty z f) (E : Ext h h') : Arf Z h' a ad ty z f := by
  obtain ⟨e, c, A, r⟩ := F; exact ⟨e.ext E, c, A.ext E, r⟩
theorem Arf.other {sl : Nat} {v : Value} (F : Arf Z h b ad ty z f) (W : Wr h h' a sl v) (q : b ≠ a) : Arf Z h' b ad ty z f := by
  obtain ⟨e, c, A, r⟩ := F; exact ⟨e.wr W, c, A.other W q, r⟩
theorem Arf.keep {ws : List Addr} (F : Arf Z h a ad ty z f) (K : Keep h h' ws) (q : a ∉ ws) : Arf Z h' a ad ty z f := by
  obtain ⟨e, c, A, r⟩ := F; exact ⟨e.keep K, c, ⟨K.2.1 _ _ A.1 q, A.2⟩, r⟩
theorem Arf.nn (F : Arf Z h a ad ty z f) : ¬ z < 0 := by obtain ⟨-, c, -, -, r, -⟩ := F; exact r
theorem Arf.fits (F : Arf Z h a ad ty z f) {i : Nat} (q : i < z.toNatClampNeg) : fits ty (f i) = true := by
  obtain ⟨-, c, -, S, -, r⟩ := F; exact (r i (by rw [S]; exact q)).2
theorem Arf.congr {g : Nat → Value} (F : Arf Z h a ad ty z f) (q : ∀ i, i < z.toNatClampNeg → f i = g i) : Arf Z h a ad ty z g := by
  obtain ⟨e, c, A, S, N, r⟩ := F; exact ⟨e, c, A, S, N, fun i hi => by rw [← q i (S ▸ hi)]; exact r i hi⟩
theorem Arf.set {j : Int32} {v : Value} (F : Arf Z h a ad ty z f) (W : Wr h h' a j.toNatClampNeg v) (hv : Jvm.fits ty v = true) (hj : ¬ j < 0) : Arf Z h' a ad ty z (upd f j.toNatClampNeg v) := by
  obtain ⟨e, c, A, S, N, r⟩ := F
  refine ⟨e.wr W, _, A.same W, by rw [sz_set]; exact S, N, fun i hi => ?_⟩
  rw [sz_set] at hi
  by_cases q : i = j.toNatClampNeg
  · subst q; refine ⟨?_, by rw [upd_same]; exact hv⟩
    rw [upd_same]; simp [Cell.setSlot, hi]
  · rw [upd_other q]; refine ⟨?_, (r i hi).2⟩
    rw [← (r i hi).1]; exact Array.getElem?_setIfInBounds_ne (Ne.symm q)
theorem nat_lt {j z : Int32} (h1 : ¬ j < 0) (h2 : j < z) : j.toNatClampNeg < z.toNatClampNeg := by
  rw [Int32.lt_iff_toInt_lt] at h1 h2
  have : (0 : Int32).toInt = 0 := rfl
  simp only [Int32.toNatClampNeg]; omega
theorem Arf.arv (F : Arf Z h a ad ty z f) (d : Value) : ∃ kc, Arv Z h a kc ty z ((List.range z.toNatClampNeg).map f) d := by
  obtain ⟨e, c, A, S, N, r⟩ := F
  refine ⟨c.cls, c, A, rfl, S, N, fun i hi => ?_, fun i hi => ?_⟩
  · rw [(r i hi).1]; rw [S] at hi; simp [List.getD, hi]
  · have q := (r i hi).2; rw [S] at hi; simpa [List.getD, hi] using q
theorem Arf.of_arv {kc : ClassId} {vs : List Value} {d : Value} (e : Exa Z h a ad) (V : Arv Z h a kc ty z vs d) : Arf Z h a ad ty z (fun i => vs.getD i d) := by
  obtain ⟨c, A, -, S, N, H, G⟩ := V
  exact ⟨e, c, A, S, N, fun i hi => ⟨H i hi, G i hi⟩⟩
theorem g_new (C : Cx w Z own bytes ml rt nm R n0 Q Y) {i : Nat} {cl : String} {m : Nat} (w1 : (Jvm.Cond.classLink own i cl).before a0 Z = true) (w2 : (Jvm.Cond.instantiable cl m).before a0 Z = true) (w3 : (Jvm.Cond.initialized cl).before a0 Z = true) (hd : decode bytes pc = .ok (.new i, 3)) (hp : pc + 3 = pc') {k' n' : Nat} (hk : k + 1 = k') (hn : n + m = n') (hc : k' ≤ R.cells) (hs : n' ≤ R.slots)
    (G : ∀ (h' : Heap) (b : Addr), Ext h h' → h.size ≤ b → n0 ≤ b → Exa Z h' b cl → (∀ {O nm d : String} {ty : FieldType}, Laid Z a0 cl O nm d → parseFieldDescriptor d = some ty → Fld Z h' b O nm d (defaultValue ty)) → Go w l R n0 Y h' k' n' pc' Ls (.ref b :: st)) : Go w l R n0 Y h k n pc Ls st := by
  subst hp hk hn
  intro T locs X hT hn N
  obtain ⟨T', h', X', e', E, A, D, -, s'⟩ := newO X C.hx C.hZ C.hown w1 w2 w3 hT (g := mkF w.m pc Ls st) rfl (C.d hd) hc hs
  obtain ⟨s₂, o, h1, h2⟩ := G h' _ E (Nat.le_refl _) hn.1 A D T' locs X' e' (own_grow hn E.1) N
  exact ⟨s₂, o, s' _ h1, h2⟩
theorem g_newarr (C : Cx w Z own bytes ml rt nm R n0 Q Y) {aty : ArrayType} {ad : String} {z : Int32} {cap : Nat} (w1 : (Jvm.Cond.arrayClass (newarray.typeOf aty)).before a0 Z = true) (hd : decode bytes pc = .ok (.newarray aty, 2)) (hp : pc + 2 = pc') (had : "[" ++ (newarray.typeOf aty).toString = ad) (hz : ¬ z < 0) (hcap : z.toNatClampNeg ≤ cap) (hb : cap * 8 ≤ 536870912) {k' n' : Nat} (hk : k + 1 = k') (hn : n + cap = n') (hc : k' ≤ R.cells) (hs : n' ≤ R.slots) (hfit : Jvm.fits (newarray.typeOf aty) (defaultValue (newarray.typeOf aty)) = true)
    (G : ∀ (h' : Heap) (b : Addr), Ext h h' → h.size ≤ b → n0 ≤ b → Arf Z h' b ad (newarray.typeOf aty) z (fun _ => defaultValue (newarray.typeOf aty)) → Go w l R n0 Y h' k' n' pc' Ls (.ref b :: rest)) : Go w l R n0 Y h k n pc Ls (.int z :: rest) := by
  subst hp hk hn
  intro T locs X hT hn N
  obtain ⟨T', h', cA, X', e', E, A, Ex, s'⟩ := newPE X C.hx C.hZ w1 hT (g := mkF w.m pc Ls (.int z :: rest)) rfl (C.d hd) rfl hz hcap hb hc hs had
  obtain ⟨s₂, o, h1, h2⟩ := G h' _ E (Nat.le_refl _) hn.1 ⟨Ex, _, A, sz_new _ _ _, hz, fun i hi => ⟨by rw [sz_new] at hi; simp [newA, hi], hfit⟩⟩ T' locs X' e' (own_grow hn E.1) N
  exact ⟨s₂, o, s' _ h1, h2⟩
theorem g_getF (C : Cx w Z own bytes ml rt nm R n0 Q Y) {R0 O nf d host : String} {i : Nat} {v : Value} (w1 : (Jvm.Cond.fieldLink own i R0 nf d).before a0 Z = true ∨ (Jvm.Cond.fieldLinkNest own i R0 nf d host).before a0 Z = true) (via : Via Z R0 O nf d) (F : Fld Z h a O nf d v) (hd : decode bytes pc = .ok (.getfield i, 3)) (hp : pc + 3 = pc')
    (G : Go w l R n0 Y h k n pc' Ls (v :: rest)) : Go w l R n0 Y h k n pc Ls (.ref a :: rest) := by
  subst hp
  intro T locs X hT hn N
  obtain ⟨T', X', e', s'⟩ := getF X C.hx C.hZ C.hown w1 via hT F (g := mkF w.m pc Ls (.ref a :: rest)) rfl rfl (C.d hd)
  obtain ⟨s₂, o, h1, h2⟩ := G T' locs X' e' hn N
  exact ⟨s₂, o, s' _ h1, h2⟩
theorem g_getS (C : Cx w Z own bytes ml rt nm R n0 Q Y) {R0 O nf d host : String} {i : Nat} {v : Value} (w1 : (Jvm.Cond.fieldLink own i R0 nf d).before a0 Z = true ∨ (Jvm.Cond.fieldLinkNest own i R0 nf d host).before a0 Z = true) (via : Via Z R0 O nf d) (F : Sta Z h O nf d v) (hd : decode bytes pc = .ok (.getstatic i, 3)) (hp : pc + 3 = pc')
    (G : Go w l R n0 Y h k n pc' Ls (v :: st)) : Go w l R n0 Y h k n pc Ls st := by
  subst hp
  intro T locs X hT hn N
  obtain ⟨T', X', e', s'⟩ := getS2 X C.hx C.hZ C.hown w1 via hT F (g := mkF w.m pc Ls st) rfl (C.d hd)
  obtain ⟨s₂, o, h1, h2⟩ := G T' locs X' e' hn N
  exact ⟨s₂, o, s' _ h1, h2⟩
theorem g_putF (C : Cx w Z own bytes ml rt nm R n0 Q Y) {R0 O nf d host cl : String} {i kk : Nat} {ty : FieldType} {v old : Value} (w1 : (Jvm.Cond.fieldLink own i R0 nf d).before a0 Z = true ∨ (Jvm.Cond.fieldLinkNest own i R0 nf d host).before a0 Z = true) (via : Via Z R0 O nf d) (F : Fld Z h a O nf d old) (E : Exa Z h a cl) (L : (Jvm.Cond.lays cl O nf d).before a0 Z = true ∨ ((Jvm.Cond.laysFinal cl O nf d).before a0 Z = true ∧ own = O ∧ nm = "<init>")) (wi : (Jvm.Cond.instantiable cl kk).before a0 Z = true)
    (hty : parseFieldDescriptor d = some ty) (hnr : narrow ty v = v) (hf : Jvm.fits ty v = true) (hd : decode bytes pc = .ok (.putfield i, 3)) (hp : pc + 3 = pc') (ha : n0 ≤ a)
    (G : ∀ h' : Heap, Wr h h' a (Jvm.RoadKit.slotOf Z O nf d) v → Go w l R n0 Y h' k n pc' Ls rest) : Go w l R n0 Y h k n pc Ls (v :: .ref a :: rest) := by
  subst hp
  intro T locs X hT hn N
  obtain ⟨T', h', X', e', W, s'⟩ := putF X C.hx C.hZ C.hown w1 via hT F E (L.imp id fun q => ⟨q.1, q.2.1, C.name.trans q.2.2⟩) wi hty hnr hf (g := mkF w.m pc Ls (v :: .ref a :: rest)) rfl rfl (C.d hd)
  obtain ⟨s₂, o, h1, h2⟩ := G h' W T' _ X' e' (by rw [W.size]; exact hn) (Fr.snoc X' N ha)
  exact ⟨s₂, o, s' _ h1, h2⟩
theorem g_putFN (C : Cx w Z own bytes ml rt nm R n0 Q Y) {R0 O nf d cl : String} {i kk : Nat} {ty : FieldType} {v v' old : Value} (w1 : (Jvm.Cond.fieldLink own i R0 nf d).before a0 Z = true) (via : Via Z R0 O nf d) (F : Fld Z h a O nf d old) (E : Exa Z h a cl) (L : (Jvm.Cond.lays cl O nf d).before a0 Z = true ∨ ((Jvm.Cond.laysFinal cl O nf d).before a0 Z = true ∧ own = O ∧ nm = "<init>")) (wi : (Jvm.Cond.instantiable cl kk).before a0 Z = true)
    (hty : parseFieldDescriptor d = some ty) (hnr : narrow ty v = v') (hf : Jvm.fits ty v' = true) (hd : decode bytes pc = .ok (.putfield i, 3)) (hp : pc + 3 = pc') (ha : n0 ≤ a)
    (G : ∀ h' : Heap, Wr h h' a (Jvm.RoadKit.slotOf Z O nf d) v' → Go w l R n0 Y h' k n pc' Ls rest) : Go w l R n0 Y h k n pc Ls (v :: .ref a :: rest) := by
  subst hp
  intro T locs X hT hn N
  obtain ⟨T', h', X', e', W, s'⟩ := putFN X C.hx C.hZ C.hown w1 via hT F E (L.imp id fun q => ⟨q.1, q.2.1, C.name.trans q.2.2⟩) wi hty hnr hf (g := mkF w.m pc Ls (v :: .ref a :: rest)) rfl rfl (C.d hd)
  obtain ⟨s₂, o, h1, h2⟩ := G h' W T' _ X' e' (by rw [W.size]; exact hn) (Fr.snoc X' N ha)
  exact ⟨s₂, o, s' _ h1, h2⟩
theorem g_bastore (C : Cx w Z own bytes ml rt nm R n0 Q Y) {j x : Int32} (F : Arf Z h a ad .byte z f) (hj : ¬ j < 0) (hz : j < z) (hd : decode bytes pc = .ok (.bastore, 1)) (hp : pc + 1 = pc') (ha : n0 ≤ a)
    (G : ∀ h' : Heap, Wr h h' a j.toNatClampNeg (.int (nar .byte x)) → Arf Z h' a ad .byte z (upd f j.toNatClampNeg (.int (nar .byte x))) → Go w l R n0 Y h' k n pc' Ls rest) : Go w l R n0 Y h k n pc Ls (.int x :: .int j :: .ref a :: rest) := by
  subst hp
  intro T locs X hT hn N
  obtain ⟨-, c, A, S, -⟩ := id F
  obtain ⟨T', h', X', e', W, s'⟩ := stB X C.hx C.hZ hT A (inb_of S ⟨hj, hz⟩) (g := mkF w.m pc Ls (.int x :: .int j :: .ref a :: rest)) rfl rfl (C.d hd)
  obtain ⟨s₂, o, h1, h2⟩ := G h' W (F.set W (fits_nar_byte _) hj) T' _ X' e' (by rw [W.size]; exact hn) (Fr.snoc X' N ha)
  exact ⟨s₂, o, s' _ h1, h2⟩
theorem g_zastore (C : Cx w Z own bytes ml rt nm R n0 Q Y) {j x : Int32} (F : Arf Z h a ad .boolean z f) (hj : ¬ j < 0) (hz : j < z) (hd : decode bytes pc = .ok (.bastore, 1)) (hp : pc + 1 = pc') (ha : n0 ≤ a)
    (G : ∀ h' : Heap, Wr h h' a j.toNatClampNeg (.int (nar .boolean x)) → Arf Z h' a ad .boolean z (upd f j.toNatClampNeg (.int (nar .boolean x))) → Go w l R n0 Y h' k n pc' Ls rest) : Go w l R n0 Y h k n pc Ls (.int x :: .int j :: .ref a :: rest) := by
  subst hp
  intro T locs X hT hn N
  obtain ⟨-, c, A, S, -⟩ := id F
  obtain ⟨T', h', X', e', W, s'⟩ := stZ X C.hx C.hZ hT A (inb_of S ⟨hj, hz⟩) (g := mkF w.m pc Ls (.int x :: .int j :: .ref a :: rest)) rfl rfl (C.d hd)
  obtain ⟨s₂, o, h1, h2⟩ := G h' W (F.set W (fits_nar_bool _) hj) T' _ X' e' (by rw [W.size]; exact hn) (Fr.snoc X' N ha)
  exact ⟨s₂, o, s' _ h1, h2⟩
theorem g_castore (C : Cx w Z own bytes ml rt nm R n0 Q Y) {j x : Int32} (F : Arf Z h a ad .char z f) (hj : ¬ j < 0) (hz : j < z) (hd : decode bytes pc = .ok (.castore, 1)) (hp : pc + 1 = pc') (ha : n0 ≤ a)
    (G : ∀ h' : Heap, Wr h h' a j.toNatClampNeg (.int (nar .char x)) → Arf Z h' a ad .char z (upd f j.toNatClampNeg (.int (nar .char x))) → Go w l R n0 Y h' k n pc' Ls rest) : Go w l R n0 Y h k n pc Ls (.int x :: .int j :: .ref a :: rest) := by
  subst hp
  intro T locs X hT hn N
  obtain ⟨-, c, A, S, -⟩ := id F
  obtain ⟨T', h', X', e', W, s'⟩ := stC X C.hx C.hZ hT A (inb_of S ⟨hj, hz⟩) (g := mkF w.m pc Ls (.int x :: .int j :: .ref a :: rest)) rfl rfl (C.d hd)
  obtain ⟨s₂, o, h1, h2⟩ := G h' W (F.set W (fits_nar_char _) hj) T' _ X' e' (by rw [W.size]; exact hn) (Fr.snoc X' N ha)
  exact ⟨s₂, o, s' _ h1, h2⟩
theorem g_iastore (C : Cx w Z own bytes ml rt nm R n0 Q Y) {j x : Int32} (F : Arf Z h a ad .int z f) (hj : ¬ j < 0) (hz : j < z) (hd : decode bytes pc = .ok (.iastore, 1)) (hp : pc + 1 = pc') (ha : n0 ≤ a)
    (G : ∀ h' : Heap, Wr h h' a j.toNatClampNeg (.int x) → Arf Z h' a ad .int z (upd f j.toNatClampNeg (.int x)) → Go w l R n0 Y h' k n pc' Ls rest) : Go w l R n0 Y h k n pc Ls (.int x :: .int j :: .ref a :: rest) := by
  subst hp
  intro T locs X hT hn N
  obtain ⟨-, c, A, S, -⟩ := id F
  obtain ⟨T', h', X', e', W, s'⟩ := stI X C.hx C.hZ hT A (inb_of S ⟨hj, hz⟩) (g := mkF w.m pc Ls (.int x :: .int j :: .ref a :: rest)) rfl rfl (C.d hd)
  obtain ⟨s₂, o, h1, h2⟩ := G h' W (F.set W (rfl) hj) T' _ X' e' (by rw [W.size]; exact hn) (Fr.snoc X' N ha)
  exact ⟨s₂, o, s' _ h1, h2⟩
theorem g_baload (C : Cx w Z own bytes ml rt nm R n0 Q Y) {j : Int32} {v : Value} (F : Arf Z h a ad .byte z f) (hj : ¬ j < 0) (hz : j < z) (hv : f j.toNatClampNeg = v) (hd : decode bytes pc = .ok (.baload, 1)) (hp : pc + 1 = pc')
    (G : Go w l R n0 Y h k n pc' Ls (v :: rest)) : Go w l R n0 Y h k n pc Ls (.int j :: .ref a :: rest) := by
  subst hp
  obtain ⟨-, c, A, S, -, r⟩ := F
  exact Go.stand (fun T t locs X hT K => X.baloadBytes C.hx (j := j) (v := v) (by rw [hT]; exact A.1) (State.isArrayOf_alike C.hZ.alike A.2.1) A.2.2 (inb_of S ⟨hj, hz⟩) (by rw [(r _ (by rw [S]; exact nat_lt hj hz)).1, hv]) (g := mkF w.m pc Ls (.int j :: .ref a :: rest)) rfl rfl (C.d hd) _ K) G
theorem g_zaload (C : Cx w Z own bytes ml rt nm R n0 Q Y) {j : Int32} {v : Value} (F : Arf Z h a ad .boolean z f) (hj : ¬ j < 0) (hz : j < z) (hv : f j.toNatClampNeg = v) (hd : decode bytes pc = .ok (.baload, 1)) (hp : pc + 1 = pc')
    (G : Go w l R n0 Y h k n pc' Ls (v :: rest)) : Go w l R n0 Y h k n pc Ls (.int j :: .ref a :: rest) := by
  subst hp
  obtain ⟨-, c, A, S, -, r⟩ := F
  exact Go.stand (fun T t locs X hT K => X.baloadBooleans C.hx (j := j) (v := v) (by rw [hT]; exact A.1) (State.isArrayOf_alike C.hZ.alike A.2.1) A.2.2 (inb_of S ⟨hj, hz⟩) (by rw [(r _ (by rw [S]; exact nat_lt hj hz)).1, hv]) (g := mkF w.m pc Ls (.int j :: .ref a :: rest)) rfl rfl (C.d hd) _ K) G
theorem g_caload (C : Cx w Z own bytes ml rt nm R n0 Q Y) {j : Int32} {v : Value} (F : Arf Z h a ad .char z f) (hj : ¬ j < 0) (hz : j < z) (hv : f j.toNatClampNeg = v) (hd : decode bytes pc = .ok (.caload, 1)) (hp : pc + 1 = pc')
    (G : Go w l R n0 Y h k n pc' Ls (v :: rest)) : Go w l R n0 Y h k n pc Ls (.int j :: .ref a :: rest) := by
  subst hp
  obtain ⟨-, c, A, S, -, r⟩ := F
  exact Go.stand (fun T t locs X hT K => X.caload C.hx (j := j) (v := v) (by rw [hT]; exact A.1) (State.isArrayOf_alike C.hZ.alike A.2.1) A.2.2 (inb_of S ⟨hj, hz⟩) (by rw [(r _ (by rw [S]; exact nat_lt hj hz)).1, hv]) (g := mkF w.m pc Ls (.int j :: .ref a :: rest)) rfl rfl (C.d hd) _ K) G
theorem g_iaload (C : Cx w Z own bytes ml rt nm R n0 Q Y) {j : Int32} {v : Value} (F : Arf Z h a ad .int z f) (hj : ¬ j < 0) (hz : j < z) (hv : f j.toNatClampNeg = v) (hd : decode bytes pc = .ok (.iaload, 1)) (hp : pc + 1 = pc')
    (G : Go w l R n0 Y h k n pc' Ls (v :: rest)) : Go w l R n0 Y h k n pc Ls (.int j :: .ref a :: rest) := by
  subst hp
  obtain ⟨-, c, A, S, -, r⟩ := F
  exact Go.stand (fun T t locs X hT K => X.iaload C.hx (j := j) (v := v) (by rw [hT]; exact A.1) (State.isArrayOf_alike C.hZ.alike A.2.1) A.2.2 (inb_of S ⟨hj, hz⟩) (by rw [(r _ (by rw [S]; exact nat_lt hj hz)).1, hv]) (g := mkF w.m pc Ls (.int j :: .ref a :: rest)) rfl rfl (C.d hd) _ K) G
theorem g_aaload (C : Cx w Z own bytes ml rt nm R n0 Q Y) {j : Int32} {v : Value} (hty : ty.isReference = true) (F : Arf Z h a ad ty z f) (hj : ¬ j < 0) (hz : j < z) (hv : f j.toNatClampNeg = v) (hd : decode bytes pc = .ok (.aaload, 1)) (hp : pc + 1 = pc')
    (G : Go w l R n0 Y h k n pc' Ls (v :: rest)) : Go w l R n0 Y h k n pc Ls (.int j :: .ref a :: rest) := by
  subst hp
  obtain ⟨-, c, A, S, -, r⟩ := F
  exact Go.stand (fun T t locs X hT K => X.aaload C.hx (j := j) (v := v) (by rw [hT]; exact A.1) (State.isArrayOf_alike C.hZ.alike A.2.1) hty A.2.2 (inb_of S ⟨hj, hz⟩) (by rw [(r _ (by rw [S]; exact nat_lt hj hz)).1, hv]) (g := mkF w.m pc Ls (.int j :: .ref a :: rest)) rfl rfl (C.d hd) _ K) G
theorem g_len (C : Cx w Z own bytes ml rt nm R n0 Q Y) (F : Arf Z h a ad ty z f) (hd : decode bytes pc = .ok (.arraylength, 1)) (hp : pc + 1 = pc') (G : Go w l R n0 Y h k n pc' Ls (.int z :: rest)) : Go w l R n0 Y h k n pc Ls (.ref a :: rest) := by
  subst hp
  obtain ⟨-, c, A, S, M, r⟩ := F
  refine Go.stand (fun T t locs X hT K => X.arraylength C.hx (by rw [hT]; exact A.1) (State.isArrayOf_alike C.hZ.alike A.2.1) (g := mkF w.m pc Ls (.ref a :: rest)) rfl rfl (C.d hd) _ ?_) G
  rw [len_of S M]; exact K
theorem g_cast (C : Cx w Z own bytes ml rt nm R n0 Q Y) {i : Nat} {cl : String} (w1 : (Jvm.Cond.classLink own i cl).before a0 Z = true) (I : Ins Z h a cl true) (hd : decode bytes pc = .ok (.checkcast i, 3)) (hp : pc + 3 = pc') (G : Go w l R n0 Y h k n pc' Ls (.ref a :: rest)) : Go w l R n0 Y h k n pc Ls (.ref a :: rest) := by
  subst hp
  intro T locs X hT hn N
  obtain ⟨T', X', e', s'⟩ := castY X C.hx C.hZ C.hown w1 hT I (g := mkF w.m pc Ls (.ref a :: rest)) rfl rfl (C.d hd)
  obtain ⟨s₂, o, h1, h2⟩ := G T' locs X' e' hn N
  exact ⟨s₂, o, s' _ h1, h2⟩
theorem g_castNull (C : Cx w Z own bytes ml rt nm R n0 Q Y) {i : Nat} (hd : decode bytes pc = .ok (.checkcast i, 3)) (hp : pc + 3 = pc') (G : Go w l R n0 Y h k n pc' Ls (.null :: rest)) : Go w l R n0 Y h k n pc Ls (.null :: rest) := by
  subst hp
  exact Go.stand (fun T t locs X hT K => X.checkcastNull C.hx (g := mkF w.m pc Ls (.null :: rest)) rfl rfl (C.d hd) _ K) G
theorem g_inst (C : Cx w Z own bytes ml rt nm R n0 Q Y) {i : Nat} {cl : String} (w1 : (Jvm.Cond.classLink own i cl).before a0 Z = true) (I : Ins Z h a cl true) (hd : decode bytes pc = .ok (.instanceof i, 3)) (hp : pc + 3 = pc') (G : Go w l R n0 Y h k n pc' Ls (.int 1 :: rest)) : Go w l R n0 Y h k n pc Ls (.ref a :: rest) := by
  subst hp
  intro T locs X hT hn N
  obtain ⟨T', X', e', s'⟩ := instY X C.hx C.hZ C.hown w1 hT I (g := mkF w.m pc Ls (.ref a :: rest)) rfl rfl (C.d hd)
  obtain ⟨s₂, o, h1, h2⟩ := G T' locs X' e' hn N
  exact ⟨s₂, o, s' _ h1, h2⟩
theorem g_initO (C : Cx w Z own bytes ml rt nm R n0 Q Y) {i : Nat} {W : Nat} (w1 : (Jvm.Cond.methodLink own i Lib.objectInit).before a0 Z = true) (w2 : (Jvm.Cond.instanceMethod Lib.objectInit).before a0 Z = true) (w3 : (Jvm.Cond.code Lib.objectInit ⟨#[0xb1]⟩ 1 none).before a0 Z = true) (hd : decode bytes pc = .ok (.invokespecial i, 3)) (hp : pc + 3 = pc') (hml : Ls.size = ml) (hf : 1 ≤ R.frames) (hW : (rest.map fun v => v.category).sum ≤ W) (hl : W + 12 ≤ R.locals)
    (G : Go w l R n0 Y h k n pc' Ls rest) : Go w l R n0 Y h k n pc Ls (.ref a :: rest) := by
  subst hp
  intro T locs X hT hn N
  obtain ⟨T', X', e', s'⟩ := initO X C.hx C.hZ C.hown w1 w2 w3 hT (g := mkF w.m pc Ls (.ref a :: rest)) rfl (by rw [C.hml]; exact hml) rfl (C.d hd) hf (W := W) (by simpa using hW) hl
  obtain ⟨s₂, o, h1, h2⟩ := G T' locs X' e' hn N
  exact ⟨s₂, o, s' _ h1, h2⟩
/-- what a callee's Back says here -/
abbrev PreB (R : Room) (h : Heap) (rm : Room) (as' : Array Value) : Pt → Array Value → Prop := fun A a => a = as' ∧ A.U.heap = h ∧ A.cells + rm.cells ≤ R.cells ∧ A.slots + rm.slots ≤ R.slots
abbrev PostB (n0 : Nat) (rm : Room) (Qc : Option Value → Heap → Prop) : Pt → Array Value → Option Value → Pt → Prop := fun A _ v B => ∃ L, (Qc v B.U.heap ∧ Fr n0 L ∧ A.U.heap.size ≤ B.U.heap.size) ∧ B.locs = A.locs ++ L ∧ B.cells = A.cells + rm.cells ∧ B.slots = A.slots + rm.slots
theorem Met.back {y : MethodName} {yb : ByteArray} {yl : Nat} {yr : Option FieldType} {rm : Room} {as' : Array Value} {Qc : Option Value → Heap → Prop} {W len : Nat} (M : Met l Z y yb yl yr rm n0 h as' Qc) (hn : n0 ≤ h.size) (hZ : Z.Warmed39 w.s.vm) (wc : (Jvm.Cond.code y yb yl yr).before a0 Z = true) (wz : (Jvm.Cond.initialized y.cls).before a0 Z = true) (hf : rm.frames + 1 ≤ R.frames) (hl : W + (yl + 11) + rm.locals ≤ R.locals) :
    Back l R w.p w.e w.below w.s w.as y len W (PreB R h rm as') (PostB n0 rm Qc) :=
  Back.mono (backOf (W := W) (Q := fun v h' L => Qc v h' ∧ Fr n0 L ∧ h.size ≤ h'.size) (M hn []) hZ wc wz hf hl) (fun P a hp => hp) (fun P a v B hp hq => by
    obtain ⟨L, q, r⟩ := hq
    exact ⟨L, ⟨q.1, q.2.1, by rw [hp.2.1]; exact q.2.2⟩, r⟩)
section Calls
variable {y y' : MethodName} {yb : ByteArray} {yl : Nat} {yr : Option FieldType} {rm : Room} {Qc : Option Value → Heap → Prop} {W i k' n' : Nat} {argsL : List Value} {cl : String}
theorem g_static (C : Cx w Z own bytes ml rt nm R n0 Q Y) (w1 : (Jvm.Cond.methodLink own i y).before a0 Z = true) (w2 : (Jvm.Cond.static y).before a0 Z = true) (w3 : (Jvm.Cond.initialized y.cls).before a0 Z = true) (w4 : (Jvm.Cond.code y yb yl yr).before a0 Z = true) (hy : y.cls ≠ "java/lang/invoke/MethodHandle" ∧ y.cls ≠ "java/lang/invoke/VarHandle")
    (hd : decode bytes pc = .ok (.invokestatic i, 3)) (hp : pc + 3 = pc') (hlen : ∀ sig, parseMethodDescriptor y.desc = some sig → argsL.length = sig.parameters.length) (hst : st = argsL.reverse ++ rest) (hW : (rest.map fun v => v.category).sum ≤ W) (hml : Ls.size = ml)
    (B : n0 ≤ h.size → Back l R w.p w.e w.below w.s w.as y 3 W (PreB R h rm argsL.toArray) (PostB n0 rm Qc)) (hk : k + rm.cells = k') (hn : n + rm.slots = n') (hc : k' ≤ R.cells) (hs : n' ≤ R.slots)
    (G : ∀ (v : Option Value) (h' : Heap), Qc v h' → Go w l R n0 Y h' k' n' pc' Ls (v.toList ++ rest)) : Go w l R n0 Y h k n pc Ls st := by
  subst hp hk hn
  intro T locs X hT hn N
  obtain ⟨v, vm₁, ⟨TB, LB, kB, nB⟩, -, X', ⟨L, hQ, l1, l2, l3⟩, s'⟩ := Jvm.LawKit.callS X C.hx C.hown (mvT C.hZ w1) (mvT C.hZ w2) (mvT C.hZ w3) (mvT C.hZ w4) hy (B hn.1) (g := mkF w.m pc Ls st) rfl (by rw [C.hml]; exact hml) (argsL := argsL) (rest := rest) hlen hst (by simpa using hW) (C.d hd) (fun vm₁ h₁ => ⟨rfl, hT, hc, hs⟩)
  dsimp only [Pt.U, Pt.locs, Pt.cells, Pt.slots] at X' l1 l2 l3 s' hQ
  subst l1 l2 l3
  obtain ⟨s₂, o, h1, h2⟩ := G v TB.heap hQ.1 TB _ X' rfl (own_grow hn (hT ▸ hQ.2.2)) (N.app hQ.2.1)
  exact ⟨s₂, o, s' _ h1, h2⟩
theorem g_special (C : Cx w Z own bytes ml rt nm R n0 Q Y) {yl0 : Nat} {yb0 : ByteArray} (hy1 : y.name = "<init>") (w1 : (Jvm.Cond.methodLink own i y).before a0 Z = true) (w2 : (Jvm.Cond.instanceMethod y).before a0 Z = true) (w4 : (Jvm.Cond.code y yb0 yl0 none).before a0 Z = true) (hy : y.cls ≠ "java/lang/invoke/MethodHandle" ∧ y.cls ≠ "java/lang/invoke/VarHandle")
    (hd : decode bytes pc = .ok (.invokespecial i, 3)) (hp : pc + 3 = pc') (hlen : ∀ sig, parseMethodDescriptor y.desc = some sig → argsL.length = sig.parameters.length) (hst : st = argsL.reverse ++ .ref a :: rest) (hW : (rest.map fun v => v.category).sum ≤ W) (hml : Ls.size = ml)
    (B : n0 ≤ h.size → Back l R w.p w.e w.below w.s w.as y 3 W (PreB R h rm (.ref a :: argsL).toArray) (PostB n0 rm Qc)) (hk : k + rm.cells = k') (hn : n + rm.slots = n') (hc : k' ≤ R.cells) (hs : n' ≤ R.slots)
    (G : ∀ (v : Option Value) (h' : Heap), Qc v h' → Go w l R n0 Y h' k' n' pc' Ls (v.toList ++ rest)) : Go w l R n0 Y h k n pc Ls st := by
  subst hp hk hn
  intro T locs X hT hn N
  obtain ⟨v, vm₁, ⟨TB, LB, kB, nB⟩, -, X', ⟨L, hQ, l1, l2, l3⟩, s'⟩ := X.specialBack C.hx hy1 C.hown (mvT C.hZ w1) (mvT C.hZ w2) (mvT C.hZ w4) hy (B hn.1) (g := mkF w.m pc Ls st) rfl (by rw [C.hml]; exact hml) (Steps.refl _) (a := a) (argsL := argsL) (rest := rest) hlen hst (by simpa using hW) (C.d hd) (fun vm₁ h₁ => ⟨rfl, hT, hc, hs⟩)
  dsimp only [Pt.U, Pt.locs, Pt.cells, Pt.slots] at X' l1 l2 l3 s' hQ
  subst l1 l2 l3
  obtain ⟨s₂, o, h1, h2⟩ := G v TB.heap hQ.1 TB _ X' rfl (own_grow hn (hT ▸ hQ.2.2)) (N.app hQ.2.1)
  exact ⟨s₂, o, s'.trans h1, h2⟩
theorem g_virtual (C : Cx w Z own bytes ml rt nm R n0 Q Y) (w1 : (Jvm.Cond.methodLink own i y).before a0 Z = true) (w2 : (Jvm.Cond.declares y).before a0 Z = true) (nf : NotFace w.s y) (w3 : (Jvm.Cond.selects cl y y').before a0 Z = true) (w4 : (Jvm.Cond.instanceMethod y').before a0 Z = true) (hy : y.cls ≠ "java/lang/invoke/MethodHandle" ∧ y.cls ≠ "java/lang/invoke/VarHandle") (E : Exa Z h a cl)
    (hd : decode bytes pc = .ok (.invokevirtual i, 3)) (hp : pc + 3 = pc') (hlen : ∀ sig, parseMethodDescriptor y.desc = some sig → argsL.length = sig.parameters.length) (hst : st = argsL.reverse ++ .ref a :: rest) (hW : (rest.map fun v => v.category).sum ≤ W) (hml : Ls.size = ml)
    (B : n0 ≤ h.size → Back l R w.p w.e w.below w.s w.as y' 3 W (PreB R h rm (.ref a :: argsL).toArray) (PostB n0 rm Qc)) (hk : k + rm.cells = k') (hn : n + rm.slots = n') (hc : k' ≤ R.cells) (hs : n' ≤ R.slots)
    (G : ∀ (v : Option Value) (h' : Heap), Qc v h' → Go w l R n0 Y h' k' n' pc' Ls (v.toList ++ rest)) : Go w l R n0 Y h k n pc Ls st := by
  subst hp hk hn
  intro T locs X hT hn N
  obtain ⟨cq, kq, qa, qb, qc⟩ := isOf C.hZ hT E
  obtain ⟨v, vm₁, ⟨TB, LB, kB, nB⟩, -, X', ⟨L, hQ, l1, l2, l3⟩, s'⟩ := X.virtualBack C.hx C.hown (mvT C.hZ w1) (mvT C.hZ w2) nf (mvT C.hZ w3) (mvT C.hZ w4) hy (B hn.1) qa qc (g := mkF w.m pc Ls st) rfl (by rw [C.hml]; exact hml) (Steps.refl _) (argsL := argsL) (rest := rest) hlen hst (by simpa using hW) (C.d hd) (fun vm₁ h₁ => ⟨rfl, hT, hc, hs⟩)
  dsimp only [Pt.U, Pt.locs, Pt.cells, Pt.slots] at X' l1 l2 l3 s' hQ
  subst l1 l2 l3
  obtain ⟨s₂, o, h1, h2⟩ := G v TB.heap hQ.1 TB _ X' rfl (own_grow hn (hT ▸ hQ.2.2)) (N.app hQ.2.1)
  exact ⟨s₂, o, s'.trans h1, h2⟩
theorem g_nf (C : Cx w Z own bytes ml rt nm R n0 Q Y) (w3 : (Jvm.Cond.selects cl y y).before a0 Z = true) : NotFace w.s y := notFace_of_selects (args := #[]) (mvT C.hZ w3)
theorem g_selPriv (C : Cx w Z own bytes ml rt nm R n0 Q Y) {yo : MethodName} (hc : yo.cls = y.cls) (w3 : (Jvm.Cond.selects yo.cls yo yo).before a0 Z = true) (w2 : (Jvm.Cond.instanceMethod y).before a0 Z = true) (w5 : (Jvm.Cond.privateMethod y).before a0 Z = true) (hy : y.cls ≠ "java/lang/invoke/MethodHandle" ∧ y.cls ≠ "java/lang/invoke/VarHandle") : (Jvm.Cond.selects y.cls y y).before w.as w.s = true := by
  have h3 : (Jvm.Cond.selects yo.cls yo yo).before w.as w.s = true := mvT C.hZ w3
  obtain ⟨c2, r2, m2, -, -, q3, -, kP, hkP, hkPi⟩ := Cond.selects_spec h3
  exact selects_self_of_private (c := m2.cls) (hc ▸ findClass_of_methodNamed q3) hkP hkPi (Cond.privateMethod_at (mvP C.hZ w5 (args := #[]))) (mvT C.hZ w2) hy
theorem g_private (C : Cx w Z own bytes ml rt nm R n0 Q Y) (w1 : (Jvm.Cond.methodLink own i y).before a0 Z = true) (w2 : (Jvm.Cond.instanceMethod y).before a0 Z = true) (w3 : (Jvm.Cond.selects y.cls y y).before w.as w.s = true) (w5 : (Jvm.Cond.privateMethod y).before a0 Z = true) (w4 : (Jvm.Cond.code y yb yl yr).before a0 Z = true) (hy : y.cls ≠ "java/lang/invoke/MethodHandle" ∧ y.cls ≠ "java/lang/invoke/VarHandle") (E : Exa Z h a cl)
    (hd : decode bytes pc = .ok (.invokevirtual i, 3)) (hp : pc + 3 = pc') (hlen : ∀ sig, parseMethodDescriptor y.desc = some sig → argsL.length = sig.parameters.length) (hst : st = argsL.reverse ++ .ref a :: rest) (hW : (rest.map fun v => v.category).sum ≤ W) (hml : Ls.size = ml)
    (B : n0 ≤ h.size → Back l R w.p w.e w.below w.s w.as y 3 W (PreB R h rm (.ref a :: argsL).toArray) (PostB n0 rm Qc)) (hk : k + rm.cells = k') (hn : n + rm.slots = n') (hc : k' ≤ R.cells) (hs : n' ≤ R.slots)
    (G : ∀ (v : Option Value) (h' : Heap), Qc v h' → Go w l R n0 Y h' k' n' pc' Ls (v.toList ++ rest)) : Go w l R n0 Y h k n pc Ls st := by
  subst hp hk hn
  intro T locs X hT hn N
  obtain ⟨cq, q1, q2⟩ := E.cell
  obtain ⟨v, vm₁, ⟨TB, LB, kB, nB⟩, -, X', ⟨L, hQ, l1, l2, l3⟩, s'⟩ := X.privateBack C.hx C.hown (mvT C.hZ w1) (mvT C.hZ w2) w3 (Cond.privateMethod_at (mvP C.hZ w5 (args := #[]))) (mvT C.hZ w4) hy (B hn.1) (g := mkF w.m pc Ls st) rfl (by rw [C.hml]; exact hml) (Steps.refl _) (a := a) (by rw [hT]; exact q1) q2 (argsL := argsL) (rest := rest) hlen hst (by simpa using hW) (C.d hd) (fun vm₁ h₁ => ⟨rfl, hT, hc, hs⟩)
  dsimp only [Pt.U, Pt.locs, Pt.cells, Pt.slots] at X' l1 l2 l3 s' hQ
  subst l1 l2 l3
  obtain ⟨s₂, o, h1, h2⟩ := G v TB.heap hQ.1 TB _ X' rfl (own_grow hn (hT ▸ hQ.2.2)) (N.app hQ.2.1)
  exact ⟨s₂, o, s'.trans h1, h2⟩
theorem g_iface (C : Cx w Z own bytes ml rt nm R n0 Q Y) {ct : Nat} (w1 : (Jvm.Cond.methodLink own i y).before a0 Z = true) (w2 : (Jvm.Cond.declares y).before a0 Z = true) (w3 : (Jvm.Cond.interfaceMethod y.cls y.cls y.name y.desc).before a0 Z = true) (fa : ((Jvm.Cond.interfaceMethod y.cls y.cls y.name y.desc).onTables && (Jvm.Cond.interfaceMethod y.cls y.cls y.name y.desc).keepsFace) = true) (w4 : (Jvm.Cond.selects cl y y').before a0 Z = true) (w5 : (Jvm.Cond.instanceMethod y').before a0 Z = true) (w6 : (Jvm.Cond.publicMethod y').before a0 Z = true) (w7 : (Jvm.Cond.unhidden cl y.name y.desc).before a0 Z = true) (w8 : (Jvm.Cond.castable cl y.cls).before a0 Z = true) (hy : y.cls ≠ "java/lang/invoke/MethodHandle" ∧ y.cls ≠ "java/lang/invoke/VarHandle") (E : Exa Z h a cl)
    (hd : decode bytes pc = .ok (.invokeinterface i ct, 5)) (hp : pc + 5 = pc') (hlen : ∀ sig, parseMethodDescriptor y.desc = some sig → argsL.length = sig.parameters.length) (hst : st = argsL.reverse ++ .ref a :: rest) (hW : (rest.map fun v => v.category).sum ≤ W) (hml : Ls.size = ml)
    (B : n0 ≤ h.size → Back l R w.p w.e w.below w.s w.as y' 5 W (PreB R h rm (.ref a :: argsL).toArray) (PostB n0 rm Qc)) (hk : k + rm.cells = k') (hn : n + rm.slots = n') (hc : k' ≤ R.cells) (hs : n' ≤ R.slots)
    (G : ∀ (v : Option Value) (h' : Heap), Qc v h' → Go w l R n0 Y h' k' n' pc' Ls (v.toList ++ rest)) : Go w l R n0 Y h k n pc Ls st := by
  subst hp hk hn
  intro T locs X hT hn N
  obtain ⟨cq, kq, qa, qb, qc⟩ := isOf C.hZ hT E
  obtain ⟨v, vm₁, ⟨TB, LB, kB, nB⟩, -, X', ⟨L, hQ, l1, l2, l3⟩, s'⟩ := X.interfaceBack C.hx C.hown (mvT C.hZ w1) (mvT C.hZ w2) (mvT C.hZ w3 fa) (mvT C.hZ w4) (mvT C.hZ w5) (mvT C.hZ w6) (mvT C.hZ w7) (mvT C.hZ w8) hy (B hn.1) qa qb qc (g := mkF w.m pc Ls st) rfl (by rw [C.hml]; exact hml) (Steps.refl _) (argsL := argsL) (rest := rest) hlen hst (by simpa using hW) (C.d hd) (fun vm₁ h₁ => ⟨rfl, hT, hc, hs⟩)
  dsimp only [Pt.U, Pt.locs, Pt.cells, Pt.slots] at X' l1 l2 l3 s' hQ
  subst l1 l2 l3
  obtain ⟨s₂, o, h1, h2⟩ := G v TB.heap hQ.1 TB _ X' rfl (own_grow hn (hT ▸ hQ.2.2)) (N.app hQ.2.1)
  exact ⟨s₂, o, s'.trans h1, h2⟩
end Calls
end OwnKit
section OwnKit2
variable {w : Wk} {l : Launch} {R : Room} {Z : State} {a0 : Array Value} {own : String} {bytes : ByteArray} {ml : Nat} {rt : Option FieldType} {nm : String} {n0 : Nat} {Q : Option Value → Heap → Prop} {Y : State → Outcome → Prop} {h : Heap} {k n pc pc' : Nat} {Ls Ls' : Array Slot} {st rest : List Value} {a b : Addr} {ad : String} {ty : FieldType} {z : Int32} {f : Nat → Value} {h' : Heap}
theorem own_getD (f : Nat → Value) (m i : Nat) (d : Value) (hi : i < m) : ((List.range m).map f).getD i d = f i := by simp [List.getD, hi]
theorem g_clone (C : Cx w Z own bytes ml rt nm R n0 Q Y) {i W cap k' n' : Nat} (w1 : (Jvm.Cond.methodLink own i ⟨ad, "clone", "()Ljava/lang/Object;"⟩).before a0 Z = true) (w2 : (Jvm.Cond.sameMethod ad "java/lang/Object" "clone" "()Ljava/lang/Object;").before a0 Z = true) (w3 : (Jvm.Cond.native ⟨"java/lang/Object", "clone", "()Ljava/lang/Object;"⟩).before a0 Z = true) (w4 : (Jvm.Cond.instanceMethod ⟨"java/lang/Object", "clone", "()Ljava/lang/Object;"⟩).before a0 Z = true) (w5 : (Jvm.Cond.selects ad ⟨ad, "clone", "()Ljava/lang/Object;"⟩ ⟨"java/lang/Object", "clone", "()Ljava/lang/Object;"⟩).before a0 Z = true) (w6 : (Jvm.Cond.castable ad "java/lang/Cloneable").before a0 Z = true)
    (F : Arf Z h a ad ty z f) (hd : decode bytes pc = .ok (.invokevirtual i, 3)) (hp : pc + 3 = pc') (hml : Ls.size = ml) (hf : 1 ≤ R.frames) (hW : (rest.map fun v => v.category).sum ≤ W) (hl : W + 14 ≤ R.locals) (hcap : z.toNatClampNeg ≤ cap) (hk : k + 1 = k') (hn : n + cap = n') (hc : k' ≤ R.cells) (hs : n' ≤ R.slots)
    (G : ∀ (h' : Heap) (b : Addr), Ext h h' → h.size ≤ b → n0 ≤ b → Arf Z h' b ad ty z f → Go w l R n0 Y h' k' n' pc' Ls (.ref b :: rest)) : Go w l R n0 Y h k n pc Ls (.ref a :: rest) := by
  subst hp hk hn
  intro T locs X hT hn N
  obtain ⟨kc, V⟩ := F.arv .null
  obtain ⟨T', h', X', e', E, A, Ex, s'⟩ := cloneH X C.hx C.hZ C.hown w1 w2 w3 w4 w5 w6 hT V.arh F.1 (g := mkF w.m pc Ls (.ref a :: rest)) rfl (by rw [C.hml]; exact hml) rfl (C.d hd) hf (W := W) (by simpa using hW) hl hcap hc hs
  have A' : Arv Z h' h.size kc ty z ((List.range z.toNatClampNeg).map f) .null := A
  obtain ⟨s₂, o, h1, h2⟩ := G h' _ E (Nat.le_refl _) hn.1 ((Arf.of_arv Ex A').congr fun i hi => own_getD _ _ _ _ hi) T' locs X' e' (own_grow hn E.1) N
  exact ⟨s₂, o, s' _ h1, h2⟩
theorem own_acopy_list (f g : Nat → Value) (n m dp sp : Nat) (h : dp + m ≤ n) (i : Nat) (hi : i < n) :
    ((((List.range n).map g).take dp ++ (List.range m).map (fun j => ((List.range (sp + m)).map f).getD (sp + j) .null)) ++ ((List.range n).map g).drop (dp + m)).getD i .null = if dp ≤ i ∧ i < dp + m then f (sp + (i - dp)) else g i := by
  have l1 : (((List.range n).map g).take dp).length = dp := by simp; omega
  by_cases c1 : i < dp
  · rw [if_neg (by omega)]
    simp only [List.getD, List.getElem?_append, l1, List.length_append, List.length_map, List.length_range]
    simp [c1, show i < dp + m by omega, hi, List.getElem?_take]
  · by_cases c2 : i < dp + m
    · rw [if_pos (by omega)]
      simp only [List.getD, List.getElem?_append, l1, List.length_append, List.length_map, List.length_range]
      simp [c1, c2, show i - dp < m by omega, show sp + (i - dp) < sp + m by omega]
    · rw [if_neg (by omega)]
      simp only [List.getD, List.getElem?_append, l1, List.length_append, List.length_map, List.length_range]
      simp [c2, List.getElem?_drop, show dp + m + (i - (dp + m)) = i by omega, hi]
theorem g_acopy (C : Cx w Z own bytes ml rt nm R n0 Q Y) {i W : Nat} {ad' : String} {g : Nat → Value} {z' sp dp m : Int32} (w1 : (Jvm.Cond.methodLink own i Jvm.Stand.acN).before a0 Z = true) (w2 : (Jvm.Cond.native Jvm.Stand.acN).before a0 Z = true) (w3 : (Jvm.Cond.static Jvm.Stand.acN).before a0 Z = true) (w4 : (Jvm.Cond.initialized "java/lang/System").before a0 Z = true)
    (A : Arf Z h a ad ty z f) (B : Arf Z h b ad' ty z' g) (hty : refKind ty = false) (h1 : ¬ sp < 0) (h2 : ¬ dp < 0) (h3 : ¬ m < 0) (h4 : sp.toNatClampNeg + m.toNatClampNeg ≤ z.toNatClampNeg) (h5 : dp.toNatClampNeg + m.toNatClampNeg ≤ z'.toNatClampNeg) (ge : n0 ≤ b)
    (hd : decode bytes pc = .ok (.invokestatic i, 3)) (hp : pc + 3 = pc') (hml : Ls.size = ml) (hf : 1 ≤ R.frames) (hW : (rest.map fun v => v.category).sum ≤ W) (hl : W + 18 ≤ R.locals)
    (G : ∀ h' : Heap, Keep h h' [b] → Arf Z h' b ad' ty z' (fun i => if dp.toNatClampNeg ≤ i ∧ i < dp.toNatClampNeg + m.toNatClampNeg then f (sp.toNatClampNeg + (i - dp.toNatClampNeg)) else g i) → Go w l R n0 Y h' k n pc' Ls rest) : Go w l R n0 Y h k n pc Ls (.int m :: .int dp :: .ref b :: .int sp :: .ref a :: rest) := by
  subst hp
  intro T locs X hT hn N
  obtain ⟨kc, V⟩ := A.arv .null
  obtain ⟨kd, U⟩ := B.arv .null
  obtain ⟨T', h', L, X', e', N', K, A', s'⟩ := cpA X C.hx C.hZ C.hown w1 w2 w3 w4 hT V U (Or.inl ⟨rfl, hty⟩) h1 h2 h3 h4 h5 rfl (by simpa using h5) N ge (g := mkF w.m pc Ls (.int m :: .int dp :: .ref b :: .int sp :: .ref a :: rest)) rfl (by rw [C.hml]; exact hml) rfl (C.d hd) hf (W := W) (by simpa using hW) (by rw [show nativeFrameWords "java/lang/System" "arraycopy" 5 = 7 from by decide]; exact hl)
  have F := (Arf.of_arv (B.1.keep K) A')
  have F' : Arf Z h' b ad' ty z' (fun i => if dp.toNatClampNeg ≤ i ∧ i < dp.toNatClampNeg + m.toNatClampNeg then f (sp.toNatClampNeg + (i - dp.toNatClampNeg)) else g i) := by
    refine F.congr fun i hi => ?_
    show _ = if dp.toNatClampNeg ≤ i ∧ i < dp.toNatClampNeg + m.toNatClampNeg then f (sp.toNatClampNeg + (i - dp.toNatClampNeg)) else g i
    rw [← own_acopy_list f g z'.toNatClampNeg m.toNatClampNeg dp.toNatClampNeg sp.toNatClampNeg h5 i hi]
    congr 2
    congr 1
    apply List.map_congr_left
    intro j hj
    have hj' := List.mem_range.mp hj
    rw [own_getD _ _ _ _ (by omega), own_getD _ _ _ _ (by omega)]
  obtain ⟨s₂, o, g1, g2⟩ := G h' K F' T' L X' e' (own_grow hn K.1) N'
  exact ⟨s₂, o, s' _ g1, g2⟩
end OwnKit2
theorem n32_toInt {n : Nat} (h : n < 2147483648) : (Int32.ofNat n).toInt = n := Int32.toInt_ofNat_of_lt (by omega)
theorem n32_nat {n : Nat} (h : n < 2147483648) : (Int32.ofNat n).toNatClampNeg = n := by rw [Int32.toNatClampNeg, n32_toInt h]; rfl
theorem n32_nn {n : Nat} (h : n < 2147483648) : ¬ Int32.ofNat n < 0 := by
  rw [Int32.lt_iff_toInt_lt, n32_toInt h, show (0 : Int32).toInt = 0 from rfl]; omega
theorem n32_lt {i n : Nat} (h : i < n) (hn : n < 2147483648) : Int32.ofNat i < Int32.ofNat n := by
  rw [Int32.lt_iff_toInt_lt, n32_toInt hn, n32_toInt (by omega)]; omega
theorem n32_ge {i n : Nat} (h : n ≤ i) (hn : i < 2147483648) : ¬ Int32.ofNat i < Int32.ofNat n := by
  rw [Int32.lt_iff_toInt_lt, n32_toInt hn, n32_toInt (by omega)]; omega
theorem n32_succ (i : Nat) : Int32.ofNat i + (1 : Int32) = Int32.ofNat (i + 1) := (Int32.ofNat_add i 1).symm
theorem n32_of {z : Int32} (h : ¬ z < 0) : z = Int32.ofNat z.toNatClampNeg := by
  rw [Int32.lt_iff_toInt_lt, show (0 : Int32).toInt = 0 from rfl] at h
  have r := rng32 z
  rw [← Int32.toInt_inj, n32_toInt (by simp only [Int32.toNatClampNeg]; omega)]
  simp only [Int32.toNatClampNeg]; omega
theorem n32_lit {z : Int32} {n : Nat} (h : z.toInt = n) : z.toNatClampNeg = n := by simp only [Int32.toNatClampNeg]; omega
/-! the wide form: the tables may come to hold more strings meanwhile -/
abbrev Wk.reb (w : Wk) (vm : Vm) (kk : Nat) : Wk := (w.p, w.e, w.s.setVm vm, w.m, w.as, w.below, w.meth, w.c, kk)
def LvW (w : Wk) (R : Room) (n0 : Nat) (Q : Option Value → Heap → Prop) (Y : State → Outcome → Prop) : Prop := ∀ (vm1 : Vm) (kk1 : Nat), w.s.Since vm1 kk1 → w.kk ≤ kk1 → Lv (w.reb vm1 kk1) R n0 Q Y
def Wid (w : Wk) (R : Room) (n0 : Nat) (Q : Option Value → Heap → Prop) : State → Outcome → Prop := fun t o => ∃ v L, o = .returned v ∧ (Q v t.heap ∧ Fr n0 L ∧ w.kk ≤ t.heap.size) ∧ ReturnedEndW w.s o t L R.cells R.slots
def MetW (l : Launch) (Z : State) (y : MethodName) (bytes : ByteArray) (ml : Nat) (rt : Option FieldType) (rm : Room) (n0 : Nat) (h0 : Heap) (as' : Array Value) (Q : Option Value → Heap → Prop) : Prop :=
  n0 ≤ h0.size → ∀ ws, MetFree l y (head1 (Jvm.Cond.code y bytes ml rt :: ws) rm) (fun a U => a = as' ∧ Z.Warmed39 U.vm ∧ U.heap = h0) (fun _ _ _ _ _ => True) (fun _ U o U' => ∃ v L, o = .returned v ∧ (Q v U'.heap ∧ Fr n0 L ∧ h0.size ≤ U'.heap.size) ∧ ReturnedEndW U o U' L rm.cells rm.slots)
section OwnWide
variable {w : Wk} {l : Launch} {R : Room} {Z : State} {a0 : Array Value} {own : String} {bytes : ByteArray} {ml : Nat} {rt : Option FieldType} {nm : String} {n0 : Nat} {Q : Option Value → Heap → Prop} {Y : State → Outcome → Prop} {h : Heap} {k n pc pc' : Nat} {Ls Ls' : Array Slot} {st rest : List Value} {a : Addr}
theorem Lv.wid (w : Wk) (R : Room) (n0 : Nat) (Q : Option Value → Heap → Prop) : Lv w R n0 Q (Wid w R n0 Q) := fun T fs locs k n v hW hs N hk hc hn hQ => ⟨v, locs, rfl, ⟨hQ, N, hk⟩, ReturnedEndW.of_narrow ⟨v, rfl⟩ hW (hs.mono hc hn)⟩
theorem LvW.wid (w : Wk) (R : Room) (n0 : Nat) (Q : Option Value → Heap → Prop) : LvW w R n0 Q (Wid w R n0 Q) := fun vm1 kk1 hS hk1 T fs locs k n v hW hs N hk hc hn hQ => by
  obtain ⟨a, b, c'⟩ := hS.ended (U := T.setFrames fs) hW hk hs
  exact ⟨v, locs, rfl, ⟨hQ, N, Nat.le_trans hk1 hk⟩, ⟨v, rfl⟩, a, b, c'.mono hc hn⟩
theorem LvW.reb (L : LvW w R n0 Q Y) {vm1 : Vm} {kk1 : Nat} (hS : w.s.Since vm1 kk1) (hk : w.kk ≤ kk1) : LvW (w.reb vm1 kk1) R n0 Q Y := fun vm2 kk2 hS2 hk2 => L vm2 kk2 (hS.trans hS2 hk2) (Nat.le_trans hk hk2)
theorem Cx.reb (C : Cx w Z own bytes ml rt nm R n0 Q Y) (L : LvW w R n0 Q Y) {vm1 : Vm} {kk1 : Nat} (hS : w.s.Since vm1 kk1) (hk : w.kk ≤ kk1) : Cx (w.reb vm1 kk1) Z own bytes ml rt nm R n0 Q Y :=
  ⟨C.hx, C.2.1, C.hml, by show vm1.findClass own = _; rw [hS.1.alike.findClass]; exact C.hown, State.Warmed39.trans C.hZ hS.1, C.ret, C.locks, C.name, L vm1 kk1 hS hk⟩
theorem MetW.intro {y : MethodName} {rm : Room} {h0 : Heap} {as' : Array Value} (hp : plainFor y = true) (hef : ∀ m, entryFrame m as' ml = mkF m 0 Ls [])
    (H : ∀ (w : Wk) (Y : State → Outcome → Prop), Cx w Z y.cls bytes ml rt y.name rm n0 Q Y → LvW w rm n0 Q Y → Go w l rm n0 Y h0 0 0 0 Ls []) : MetW l Z y bytes ml rt rm n0 h0 as' Q := by
  intro hn ws
  refine MetFree.of_bodySF hp hisR ?_
  intro p e s m args below meth c s₁ Bd hml0 hP hK
  obtain ⟨rfl, hZ, hh⟩ := hP
  have X0 : Stand p l e rm s m args below meth c s₁ [] 0 0 := Stand.of_body Bd
  have e0 : s₁.heap = h0 := by rw [← hh, Bd.state]; rfl
  obtain ⟨s₂, o, g1, g2, g3, g4⟩ := H (p, e, s, m, args, below, meth, c, h0.size) _ ⟨Bd.exec, Bd.bytes, hml0, findClass_of_methodNamed Bd.named, hZ, Bd.returns, BodyLoose.notSynchronized Bd, (name_of_methodNamed Bd.named Bd.method).1, Lv.wid _ _ _ _⟩ (LvW.wid _ _ _ _) s₁ [] X0 e0 ⟨hn, Nat.le_refl _⟩ (Fr.nil n0)
  exact ⟨s₂, o, castTop (hef m) g1, g2, g3, g4⟩
theorem MetW.back {y : MethodName} {yb : ByteArray} {yl : Nat} {yr : Option FieldType} {rm : Room} {as' : Array Value} {Qc : Option Value → Heap → Prop} {W len : Nat} (M : MetW l Z y yb yl yr rm n0 h as' Qc) (hn : n0 ≤ h.size) (hZ : Z.Warmed39 w.s.vm) (wc : (Jvm.Cond.code y yb yl yr).before a0 Z = true) (wz : (Jvm.Cond.initialized y.cls).before a0 Z = true) (hf : rm.frames + 1 ≤ R.frames) (hl : W + (yl + 11) + rm.locals ≤ R.locals) :
    BackS l R w.p w.e w.below w.s w.as y len W (PreB R h rm as') (PostB n0 rm Qc) := by
  have B := backOfS (W := W) (len := len) (Q := fun v h' L => Qc v h' ∧ Fr n0 L ∧ h.size ≤ h'.size) (p := w.p) (e := w.e) (below := w.below) (args := w.as) (R := R) (M hn []) hZ wc wz hf hl
  intro m meth c A g ig mk a X hg hsize hdg hW hnm hp
  obtain ⟨v, B', X', hS, hgr, ⟨L, q, r⟩, hst⟩ := B m meth c A g ig mk a X hg hsize hdg hW hnm hp
  exact ⟨v, B', X', hS, hgr, ⟨L, ⟨q.1, q.2.1, by rw [hp.2.1]; exact q.2.2⟩, r⟩, hst⟩
theorem g_ldcS (C : Cx w Z own bytes ml rt nm R n0 Q Y) (CW : LvW w R n0 Q Y) {own' : String} {i m k' n' : Nat} {text : String} (w1 : (Jvm.Cond.stringLink own i text).before a0 Z = true) (wS : ∀ d ∈ Bundle.stringAtoms, d.before a0 Z = true) (hd : decode bytes pc = .ok (.ldc i, 2)) (hp : pc + 2 = pc') (hm : 4 * text.toList.length ≤ m) (hbig : m ≤ 536870912) (hk : k + 2 = k') (hn : n + (m + 4) = n') (hc : k' ≤ R.cells) (hs : n' ≤ R.slots)
    (G : ∀ (w : Wk) (h' : Heap) (a : Addr), Cx w Z own bytes ml rt nm R n0 Q Y → LvW w R n0 Q Y → Ext h h' → Go w l R n0 Y h' k' n' pc' Ls (.ref a :: st)) : Go w l R n0 Y h k n pc Ls st := by
  subst hp hk hn
  intro T locs X hT hn N
  obtain ⟨a, T', h', k1, X', e', E, hS, hk1, -, -, s'⟩ := ldcS (s := w.s) (vm0 := w.s.vm) X C.hx C.hZ C.hown w1 wS hT (k0 := 0) ((State.WarmedH.refl w.s).since 0) (Nat.zero_le _) (g := mkF w.m pc Ls st) rfl (C.d hd) hm hbig hc hs
  have hS' : w.s.Since T'.vm h'.size := ⟨hS.1, hS.2.mono hk1⟩
  obtain ⟨s₂, o, h1, h2⟩ := G (w.reb T'.vm h'.size) h' a (C.reb CW hS' (Nat.le_trans hn.2 E.1)) (CW.reb hS' (Nat.le_trans hn.2 E.1)) E T' locs X' e' ⟨Nat.le_trans hn.1 E.1, Nat.le_refl _⟩ N
  exact ⟨s₂, o, s' _ h1, h2⟩
section CallsW
variable {y y' : MethodName} {yb : ByteArray} {yl : Nat} {yr : Option FieldType} {rm : Room} {Qc : Option Value → Heap → Prop} {W i k' n' : Nat} {argsL : List Value} {cl : String}
theorem g_staticS (C : Cx w Z own bytes ml rt nm R n0 Q Y) (CW : LvW w R n0 Q Y) (w1 : (Jvm.Cond.methodLink own i y).before a0 Z = true) (w2 : (Jvm.Cond.static y).before a0 Z = true) (w3 : (Jvm.Cond.initialized y.cls).before a0 Z = true) (w4 : (Jvm.Cond.code y yb yl yr).before a0 Z = true) (hy : y.cls ≠ "java/lang/invoke/MethodHandle" ∧ y.cls ≠ "java/lang/invoke/VarHandle")
    (hd : decode bytes pc = .ok (.invokestatic i, 3)) (hp : pc + 3 = pc') (hlen : ∀ sig, parseMethodDescriptor y.desc = some sig → argsL.length = sig.parameters.length) (hst : st = argsL.reverse ++ rest) (hW : (rest.map fun v => v.category).sum ≤ W) (hml : Ls.size = ml)
    (B : n0 ≤ h.size → BackS l R w.p w.e w.below w.s w.as y 3 W (PreB R h rm argsL.toArray) (PostB n0 rm Qc)) (hk : k + rm.cells = k') (hn : n + rm.slots = n') (hc : k' ≤ R.cells) (hs : n' ≤ R.slots)
    (G : ∀ (w : Wk) (v : Option Value) (h' : Heap), Cx w Z own bytes ml rt nm R n0 Q Y → LvW w R n0 Q Y → Qc v h' → Go w l R n0 Y h' k' n' pc' Ls (v.toList ++ rest)) : Go w l R n0 Y h k n pc Ls st := by
  subst hp hk hn
  intro T locs X hT hn N
  obtain ⟨v, vm₁, ⟨TB, LB, kB, nB⟩, -, X', hS, hgr, ⟨L, hQ, l1, l2, l3⟩, s'⟩ := callSS X C.hx C.hown (mvT C.hZ w1) (mvT C.hZ w2) (mvT C.hZ w3) (mvT C.hZ w4) hy (B hn.1) (g := mkF w.m pc Ls st) rfl (by rw [C.hml]; exact hml) (argsL := argsL) (rest := rest) hlen hst (by simpa using hW) (C.d hd) (fun vm₁ h₁ => ⟨rfl, hT, hc, hs⟩)
  dsimp only [Pt.U, Pt.locs, Pt.cells, Pt.slots] at X' l1 l2 l3 s' hQ hS hgr
  subst l1 l2 l3
  have hk : w.kk ≤ TB.heap.size := Nat.le_trans hn.2 (hT ▸ hgr)
  obtain ⟨s₂, o, h1, h2⟩ := G (w.reb TB.vm TB.heap.size) v TB.heap (C.reb CW hS hk) (CW.reb hS hk) hQ.1 TB _ X' rfl ⟨Nat.le_trans hn.1 (hT ▸ hgr), Nat.le_refl _⟩ (N.app hQ.2.1)
  exact ⟨s₂, o, s'.trans h1, h2⟩
theorem g_specialS (C : Cx w Z own bytes ml rt nm R n0 Q Y) (CW : LvW w R n0 Q Y) {yl0 : Nat} {yb0 : ByteArray} (hy1 : y.name = "<init>") (w1 : (Jvm.Cond.methodLink own i y).before a0 Z = true) (w2 : (Jvm.Cond.instanceMethod y).before a0 Z = true) (w4 : (Jvm.Cond.code y yb0 yl0 none).before a0 Z = true) (hy : y.cls ≠ "java/lang/invoke/MethodHandle" ∧ y.cls ≠ "java/lang/invoke/VarHandle")
    (hd : decode bytes pc = .ok (.invokespecial i, 3)) (hp : pc + 3 = pc') (hlen : ∀ sig, parseMethodDescriptor y.desc = some sig → argsL.length = sig.parameters.length) (hst : st = argsL.reverse ++ .ref a :: rest) (hW : (rest.map fun v => v.category).sum ≤ W) (hml : Ls.size = ml)
    (B : n0 ≤ h.size → BackS l R w.p w.e w.below w.s w.as y 3 W (PreB R h rm (.ref a :: argsL).toArray) (PostB n0 rm Qc)) (hk : k + rm.cells = k') (hn : n + rm.slots = n') (hc : k' ≤ R.cells) (hs : n' ≤ R.slots)
    (G : ∀ (w : Wk) (v : Option Value) (h' : Heap), Cx w Z own bytes ml rt nm R n0 Q Y → LvW w R n0 Q Y → Qc v h' → Go w l R n0 Y h' k' n' pc' Ls (v.toList ++ rest)) : Go w l R n0 Y h k n pc Ls st := by
  subst hp hk hn
  intro T locs X hT hn N
  obtain ⟨v, vm₁, ⟨TB, LB, kB, nB⟩, -, X', hS, hgr, ⟨L, hQ, l1, l2, l3⟩, s'⟩ := X.specialBackS C.hx hy1 C.hown (mvT C.hZ w1) (mvT C.hZ w2) (mvT C.hZ w4) hy (B hn.1) (g := mkF w.m pc Ls st) rfl (by rw [C.hml]; exact hml) (Steps.refl _) (a := a) (argsL := argsL) (rest := rest) hlen hst (by simpa using hW) (C.d hd) (fun vm₁ h₁ => ⟨rfl, hT, hc, hs⟩)
  dsimp only [Pt.U, Pt.locs, Pt.cells, Pt.slots] at X' l1 l2 l3 s' hQ hS hgr
  subst l1 l2 l3
  have hk : w.kk ≤ TB.heap.size := Nat.le_trans hn.2 (hT ▸ hgr)
  obtain ⟨s₂, o, h1, h2⟩ := G (w.reb TB.vm TB.heap.size) v TB.heap (C.reb CW hS hk) (CW.reb hS hk) hQ.1 TB _ X' rfl ⟨Nat.le_trans hn.1 (hT ▸ hgr), Nat.le_refl _⟩ (N.app hQ.2.1)
  exact ⟨s₂, o, s'.trans h1, h2⟩
theorem g_virtualS (C : Cx w Z own bytes ml rt nm R n0 Q Y) (CW : LvW w R n0 Q Y) (w1 : (Jvm.Cond.methodLink own i y).before a0 Z = true) (w2 : (Jvm.Cond.declares y).before a0 Z = true) (nf : NotFace w.s y) (w3 : (Jvm.Cond.selects cl y y').before a0 Z = true) (w4 : (Jvm.Cond.instanceMethod y').before a0 Z = true) (hy : y.cls ≠ "java/lang/invoke/MethodHandle" ∧ y.cls ≠ "java/lang/invoke/VarHandle") (E : Exa Z h a cl)
    (hd : decode bytes pc = .ok (.invokevirtual i, 3)) (hp : pc + 3 = pc') (hlen : ∀ sig, parseMethodDescriptor y.desc = some sig → argsL.length = sig.parameters.length) (hst : st = argsL.reverse ++ .ref a :: rest) (hW : (rest.map fun v => v.category).sum ≤ W) (hml : Ls.size = ml)
    (B : n0 ≤ h.size → BackS l R w.p w.e w.below w.s w.as y' 3 W (PreB R h rm (.ref a :: argsL).toArray) (PostB n0 rm Qc)) (hk : k + rm.cells = k') (hn : n + rm.slots = n') (hc : k' ≤ R.cells) (hs : n' ≤ R.slots)
    (G : ∀ (w : Wk) (v : Option Value) (h' : Heap), Cx w Z own bytes ml rt nm R n0 Q Y → LvW w R n0 Q Y → Qc v h' → Go w l R n0 Y h' k' n' pc' Ls (v.toList ++ rest)) : Go w l R n0 Y h k n pc Ls st := by
  subst hp hk hn
  intro T locs X hT hn N
  obtain ⟨cq, kq, qa, qb, qc⟩ := isOf C.hZ hT E
  obtain ⟨v, vm₁, ⟨TB, LB, kB, nB⟩, -, X', hS, hgr, ⟨L, hQ, l1, l2, l3⟩, s'⟩ := X.virtualBackS C.hx C.hown (mvT C.hZ w1) (mvT C.hZ w2) nf (mvT C.hZ w3) (mvT C.hZ w4) hy (B hn.1) qa qc (g := mkF w.m pc Ls st) rfl (by rw [C.hml]; exact hml) (Steps.refl _) (argsL := argsL) (rest := rest) hlen hst (by simpa using hW) (C.d hd) (fun vm₁ h₁ => ⟨rfl, hT, hc, hs⟩)
  dsimp only [Pt.U, Pt.locs, Pt.cells, Pt.slots] at X' l1 l2 l3 s' hQ hS hgr
  subst l1 l2 l3
  have hk : w.kk ≤ TB.heap.size := Nat.le_trans hn.2 (hT ▸ hgr)
  obtain ⟨s₂, o, h1, h2⟩ := G (w.reb TB.vm TB.heap.size) v TB.heap (C.reb CW hS hk) (CW.reb hS hk) hQ.1 TB _ X' rfl ⟨Nat.le_trans hn.1 (hT ▸ hgr), Nat.le_refl _⟩ (N.app hQ.2.1)
  exact ⟨s₂, o, s'.trans h1, h2⟩
end CallsW
end OwnWide
/-! a constant whose text is read, in a walk that has loaded none before it -/
def Arw (Z : State) (h : Heap) (a : Addr) (ty : FieldType) (z : Int32) (f : Nat → Value) : Prop := ∃ c : Cell, Arr Z h a c ty ∧ c.slots.size = z.toNatClampNeg ∧ ¬ z < 0 ∧ ∀ i, i < c.slots.size → c.slots[i]? = some (f i) ∧ fits ty (f i) = true
def MetWI (l : Launch) (Z : State) (y : MethodName) (bytes : ByteArray) (ml : Nat) (rt : Option FieldType) (rm : Room) (n0 : Nat) (h0 : Heap) (as' : Array Value) (Q : Option Value → Heap → Prop) : Prop :=
  n0 ≤ h0.size → ∀ ws, MetFree l y (head1 (Jvm.Cond.code y bytes ml rt :: ws) rm) (fun a U => a = as' ∧ Z.Warmed39 U.vm ∧ U.heap = h0 ∧ U.vm.interned = Z.vm.interned) (fun _ _ _ _ _ => True) (fun _ U o U' => ∃ v L, o = .returned v ∧ (Q v U'.heap ∧ Fr n0 L ∧ h0.size ≤ U'.heap.size) ∧ ReturnedEndW U o U' L rm.cells rm.slots)
section OwnHeld
variable {w : Wk} {l : Launch} {R : Room} {Z : State} {a0 : Array Value} {own : String} {bytes : ByteArray} {ml : Nat} {rt : Option FieldType} {nm : String} {n0 : Nat} {Q : Option Value → Heap → Prop} {Y : State → Outcome → Prop} {h h' : Heap} {k n pc pc' : Nat} {Ls Ls' : Array Slot} {st rest : List Value} {a : Addr} {ty : FieldType} {z : Int32} {f : Nat → Value}
theorem Arw.of_arv {kc : ClassId} {vs : List Value} {d : Value} (V : Arv Z h a kc ty z vs d) : Arw Z h a ty z (fun i => vs.getD i d) := by
  obtain ⟨c, A, -, S, N, H, G⟩ := V
  exact ⟨c, A, S, N, fun i hi => ⟨H i hi, G i hi⟩⟩
theorem Arw.of_arf {ad : String} (F : Arf Z h a ad ty z f) : Arw Z h a ty z f := F.2
theorem Arw.lt (F : Arw Z h a ty z f) : a < h.size := by obtain ⟨c, A, -⟩ := F; exact A.lt
theorem Arw.ext (F : Arw Z h a ty z f) (E : Ext h h') : Arw Z h' a ty z f := by
  obtain ⟨c, A, r⟩ := F; exact ⟨c, A.ext E, r⟩
theorem Arw.keep {ws : List Addr} (F : Arw Z h a ty z f) (K : Keep h h' ws) (q : a ∉ ws) : Arw Z h' a ty z f := by
  obtain ⟨c, A, r⟩ := F; exact ⟨c, ⟨K.2.1 _ _ A.1 q, A.2⟩, r⟩
theorem g_baloadW (C : Cx w Z own bytes ml rt nm R n0 Q Y) {j : Int32} {v : Value} (F : Arw Z h a .byte z f) (hj : ¬ j < 0) (hz : j < z) (hv : f j.toNatClampNeg = v) (hd : decode bytes pc = .ok (.baload, 1)) (hp : pc + 1 = pc')
    (G : Go w l R n0 Y h k n pc' Ls (v :: rest)) : Go w l R n0 Y h k n pc Ls (.int j :: .ref a :: rest) := by
  subst hp
  obtain ⟨c, A, S, -, r⟩ := F
  exact Go.stand (fun T t locs X hT K => X.baloadBytes C.hx (j := j) (v := v) (by rw [hT]; exact A.1) (State.isArrayOf_alike C.hZ.alike A.2.1) A.2.2 (inb_of S ⟨hj, hz⟩) (by rw [(r _ (by rw [S]; exact nat_lt hj hz)).1, hv]) (g := mkF w.m pc Ls (.int j :: .ref a :: rest)) rfl rfl (C.d hd) _ K) G
theorem g_lenW (C : Cx w Z own bytes ml rt nm R n0 Q Y) (F : Arw Z h a ty z f) (hd : decode bytes pc = .ok (.arraylength, 1)) (hp : pc + 1 = pc') (G : Go w l R n0 Y h k n pc' Ls (.int z :: rest)) : Go w l R n0 Y h k n pc Ls (.ref a :: rest) := by
  subst hp
  obtain ⟨c, A, S, M, r⟩ := F
  refine Go.stand (fun T t locs X hT K => X.arraylength C.hx (by rw [hT]; exact A.1) (State.isArrayOf_alike C.hZ.alike A.2.1) (g := mkF w.m pc Ls (.ref a :: rest)) rfl rfl (C.d hd) _ ?_) G
  rw [len_of S M]; exact K
theorem MetWI.intro {y : MethodName} {rm : Room} {h0 : Heap} {as' : Array Value} (hp : plainFor y = true) (hef : ∀ m, entryFrame m as' ml = mkF m 0 Ls [])
    (H : ∀ (w : Wk) (Y : State → Outcome → Prop), Cx w Z y.cls bytes ml rt y.name rm n0 Q Y → LvW w rm n0 Q Y → w.s.heap = h0 → w.s.vm.interned = Z.vm.interned → Go w l rm n0 Y h0 0 0 0 Ls []) : MetWI l Z y bytes ml rt rm n0 h0 as' Q := by
  intro hn ws
  refine MetFree.of_bodySF hp hisR ?_
  intro p e s m args below meth c s₁ Bd hml0 hP hK
  obtain ⟨rfl, hZ, hh, hI⟩ := hP
  have X0 : Stand p l e rm s m args below meth c s₁ [] 0 0 := Stand.of_body Bd
  have e0 : s₁.heap = h0 := by rw [← hh, Bd.state]; rfl
  obtain ⟨s₂, o, g1, g2, g3, g4⟩ := H (p, e, s, m, args, below, meth, c, h0.size) _ ⟨Bd.exec, Bd.bytes, hml0, findClass_of_methodNamed Bd.named, hZ, Bd.returns, BodyLoose.notSynchronized Bd, (name_of_methodNamed Bd.named Bd.method).1, Lv.wid _ _ _ _⟩ (LvW.wid _ _ _ _) hh hI s₁ [] X0 e0 ⟨hn, Nat.le_refl _⟩ (Fr.nil n0)
  exact ⟨s₂, o, castTop (hef m) g1, g2, g3, g4⟩
theorem MetWI.back {y : MethodName} {yb : ByteArray} {yl : Nat} {yr : Option FieldType} {rm : Room} {as' : Array Value} {Qc : Option Value → Heap → Prop} {W len : Nat} (M : MetWI l Z y yb yl yr rm n0 h as' Qc) (hn : n0 ≤ h.size) (hZ : Z.Warmed39 w.s.vm) (hI : w.s.vm.interned = Z.vm.interned) (wc : (Jvm.Cond.code y yb yl yr).before a0 Z = true) (wz : (Jvm.Cond.initialized y.cls).before a0 Z = true) (hf : rm.frames + 1 ≤ R.frames) (hl : W + (yl + 11) + rm.locals ≤ R.locals) :
    BackS l R w.p w.e w.below w.s w.as y len W (PreB R h rm as') (PostB n0 rm Qc) :=
  BackS.of_freeW (bytes := yb) (maxL := yl) (ret := yr) (E := fun _ _ o t L k n => k = rm.cells ∧ n = rm.slots ∧ ∃ v, o = .returned v ∧ Qc v t.heap ∧ Fr n0 L ∧ h.size ≤ t.heap.size) (M hn []) hf hl
    (fun m meth c A a V q => have hU : Z.Warmed39 A.U.vm := wtrans hZ V.warmed
      ⟨by show (Cond.and _ .tt).before a A.U = true; rw [Cond.before_and, mv hU wc]; rfl, mv hU wc, mv hU wz, q.2.2.1, q.2.2.2⟩)
    (fun m meth c A a g mk V q => ⟨q.1, wtrans hZ V.warmed, q.2.1, V.warmed.interned_eq.trans hI⟩) (fun _ _ _ _ _ _ _ _ _ => trivial)
    (fun _ _ _ _ ⟨v, L, u1, u2, u3⟩ => ⟨L, _, _, u3, rfl, rfl, v, u1, u2.1, u2.2.1, u2.2.2⟩)
    (fun m meth c A a g mk v t L k n V q _ _ ⟨e1, e2, v', e3, e4, e5, e6⟩ => by cases e3; subst e1 e2; exact ⟨L, ⟨e4, e5, by rw [q.2.1]; exact e6⟩, rfl, rfl, rfl⟩)
theorem Arw.other {b : Addr} {sl : Nat} {v : Value} (F : Arw Z h b ty z f) (W : Wr h h' a sl v) (q : b ≠ a) : Arw Z h' b ty z f := by
  obtain ⟨c, A, r⟩ := F; exact ⟨c, A.other W q, r⟩
theorem Arw.congr {g : Nat → Value} (F : Arw Z h a ty z f) (q : ∀ i, i < z.toNatClampNeg → f i = g i) : Arw Z h a ty z g := by
  obtain ⟨c, A, S, N, r⟩ := F; exact ⟨c, A, S, N, fun i hi => by rw [← q i (S ▸ hi)]; exact r i hi⟩
theorem Lv.up {n1 : Nat} (L : Lv w R n0 Q Y) (h01 : n0 ≤ n1) : Lv w R n1 Q Y := fun T fs locs k n v hW hs N hk hc hn hQ => L T fs locs k n v hW hs (fun y hy => Nat.le_trans h01 (N y hy)) hk hc hn hQ
theorem Cx.up {n1 : Nat} (C : Cx w Z own bytes ml rt nm R n0 Q Y) (h01 : n0 ≤ n1) : Cx w Z own bytes ml rt nm R n1 Q Y := ⟨C.1, C.2.1, C.2.2.1, C.2.2.2.1, C.2.2.2.2.1, C.2.2.2.2.2.1, C.2.2.2.2.2.2.1, C.2.2.2.2.2.2.2.1, C.lv.up h01⟩
theorem MetWI.intro1 {y : MethodName} {rm : Room} {h0 : Heap} {as' : Array Value} (hp : plainFor y = true) (hef : ∀ m, entryFrame m as' ml = mkF m 0 Ls [])
    (H : ∀ (w : Wk) (Y : State → Outcome → Prop), Cx w Z y.cls bytes ml rt y.name rm n0 Q Y → LvW w rm n0 Q Y → w.s.heap = h0 → w.s.vm.interned = Z.vm.interned → n0 ≤ h0.size → Go w l rm h0.size Y h0 0 0 0 Ls []) : MetWI l Z y bytes ml rt rm n0 h0 as' Q := by
  intro hn ws
  refine MetFree.of_bodySF hp hisR ?_
  intro p e s m args below meth c s₁ Bd hml0 hP hK
  obtain ⟨rfl, hZ, hh, hI⟩ := hP
  have X0 : Stand p l e rm s m args below meth c s₁ [] 0 0 := Stand.of_body Bd
  have e0 : s₁.heap = h0 := by rw [← hh, Bd.state]; rfl
  obtain ⟨s₂, o, g1, g2, g3, g4⟩ := H (p, e, s, m, args, below, meth, c, h0.size) _ ⟨Bd.exec, Bd.bytes, hml0, findClass_of_methodNamed Bd.named, hZ, Bd.returns, BodyLoose.notSynchronized Bd, (name_of_methodNamed Bd.named Bd.method).1, Lv.wid _ _ _ _⟩ (LvW.wid _ _ _ _) hh hI hn s₁ [] X0 e0 ⟨Nat.le_refl _, Nat.le_refl _⟩ (Fr.nil _)
  exact ⟨s₂, o, castTop (hef m) g1, g2, g3, g4⟩
theorem g_ldcV (C : Cx w Z own bytes ml rt nm R n0 Q Y) (CW : LvW w R n0 Q Y) {n1 i m k' n' : Nat} {text : String} {vs : List Value} (hN : w.s.heap.size = n1) (h01 : n0 ≤ n1) (hk0 : Ext Z.heap w.s.heap) (hI : w.s.vm.interned = Z.vm.interned) (w1 : (Jvm.Cond.stringLink own i text).before a0 Z = true) (wS : ∀ d ∈ Bundle.stringAtoms, d.before a0 Z = true) (hh : Jvm.Lit.constHeld Z own i) (hcw : Jvm.Lit.compactW.before a0 Z = true)
    (ht : (∀ c ∈ text.toList, c.toNat < 256) ∧ text.toList.map (fun c => Value.int (Jvm.Lit.byteI c.toNat.toUInt16)) = vs) (hz : ¬ z < 0) (hl : z.toNatClampNeg = vs.length) (hd : decode bytes pc = .ok (.ldc i, 2)) (hp : pc + 2 = pc') (hm : 4 * text.toList.length ≤ m) (hbig : m ≤ 536870912) (hk : k + 2 = k') (hn : n + (m + 4) = n') (hc : k' ≤ R.cells) (hs : n' ≤ R.slots)
    (G : ∀ (w : Wk) (h' : Heap) (a b : Addr) (kb : ClassId), Cx w Z own bytes ml rt nm R n0 Q Y → LvW w R n0 Q Y → Ext h h' → Exa Z h' a "java/lang/String" → Fld Z h' a "java/lang/String" "coder" "B" (.int 0) → Fld Z h' a "java/lang/String" "value" "[B" (.ref b) → Arv Z h' b kb .byte z vs (.int 0) → Lit w.s own i a → Go w l R n0 Y h' k' n' pc' Ls (.ref a :: st)) : Go w l R n1 Y h k n pc Ls st := by
  subst hp hk hn hN
  intro T locs X hT hn N
  obtain ⟨a, T', h', k1, b, kc, X', e', E, hS, hk1, -, -, q1, q2, q3, q4, -, -, -, q5, s'⟩ := ldcSVL (s := w.s) (vm0 := w.s.vm) X C.hx C.hZ C.hown w1 wS hT (k0 := 0) ((State.WarmedH.refl w.s).since 0) (Nat.zero_le _) N hk0.2 (Ts := []) ⟨#[], by rw [hI]; simp, fun q hq => by simp at hq⟩ (by simp) hh hcw ht hz hl (g := mkF w.m pc Ls st) rfl (C.d hd) hm hbig hc hs
  have hS' : w.s.Since T'.vm h'.size := ⟨hS.1, hS.2.mono hk1⟩
  obtain ⟨s₂, o, h1, h2⟩ := G (w.reb T'.vm h'.size) h' a b kc (C.reb CW hS' (Nat.le_trans hn.2 E.1)) (CW.reb hS' (Nat.le_trans hn.2 E.1)) E q1 q2 q3 q4 q5 T' locs X' e' ⟨Nat.le_trans h01 (Nat.le_trans hn.1 E.1), Nat.le_refl _⟩ (fun y hy => Nat.le_trans h01 (N y hy))
  exact ⟨s₂, o, s' _ h1, h2⟩
theorem g_ldcAgain (C : Cx w Z own bytes ml rt nm R n0 Q Y) {i : Nat} {text : String} (w1 : (Jvm.Cond.stringLink own i text).before a0 Z = true) (L : Lit w.s own i a) (hd : decode bytes pc = .ok (.ldc i, 2)) (hp : pc + 2 = pc') (G : Go w l R n0 Y h k n pc' Ls (.ref a :: st)) : Go w l R n0 Y h k n pc Ls st := by
  subst hp
  exact Go.stand (fun T t locs X hT K => ldcAgain (s := w.s) (vm0 := w.s.vm) X C.hx C.hZ C.hown w1 L (g := mkF w.m pc Ls st) rfl (C.d hd) t K) G
end OwnHeld

theorem own_strAtoms : ∀ d ∈ Bundle.stringAtoms, d ∈ tables_1 := by decide +kernel
theorem d1_0 : decode prog_137_method_2_code 0 = .ok (.iload_n 0, 1) := by decide +kernel
theorem d1_1 : decode prog_137_method_2_code 1 = .ok (.bipush 97, 2) := by decide +kernel
theorem d1_3 : decode prog_137_method_2_code 3 = .ok (.if_icmp .lt 9, 3) := by decide +kernel
theorem d1_6 : decode prog_137_method_2_code 6 = .ok (.iload_n 0, 1) := by decide +kernel
theorem d1_7 : decode prog_137_method_2_code 7 = .ok (.bipush 122, 2) := by decide +kernel
theorem d1_9 : decode prog_137_method_2_code 9 = .ok (.if_icmp .le 36, 3) := by decide +kernel
theorem d1_12 : decode prog_137_method_2_code 12 = .ok (.iload_n 0, 1) := by decide +kernel
theorem d1_13 : decode prog_137_method_2_code 13 = .ok (.bipush 65, 2) := by decide +kernel
theorem d1_15 : decode prog_137_method_2_code 15 = .ok (.if_icmp .lt 9, 3) := by decide +kernel
theorem d1_18 : decode prog_137_method_2_code 18 = .ok (.iload_n 0, 1) := by decide +kernel
theorem d1_19 : decode prog_137_method_2_code 19 = .ok (.bipush 90, 2) := by decide +kernel
theorem d1_21 : decode prog_137_method_2_code 21 = .ok (.if_icmp .le 24, 3) := by decide +kernel
theorem d1_24 : decode prog_137_method_2_code 24 = .ok (.iload_n 0, 1) := by decide +kernel
theorem d1_25 : decode prog_137_method_2_code 25 = .ok (.bipush 48, 2) := by decide +kernel
theorem d1_27 : decode prog_137_method_2_code 27 = .ok (.if_icmp .lt 9, 3) := by decide +kernel
theorem d1_30 : decode prog_137_method_2_code 30 = .ok (.iload_n 0, 1) := by decide +kernel
theorem d1_31 : decode prog_137_method_2_code 31 = .ok (.bipush 57, 2) := by decide +kernel
theorem d1_33 : decode prog_137_method_2_code 33 = .ok (.if_icmp .le 12, 3) := by decide +kernel
theorem d1_36 : decode prog_137_method_2_code 36 = .ok (.ldc 7, 2) := by decide +kernel
theorem d1_38 : decode prog_137_method_2_code 38 = .ok (.iload_n 0, 1) := by decide +kernel
theorem d1_39 : decode prog_137_method_2_code 39 = .ok (.invokevirtual 9, 3) := by decide +kernel
theorem d1_42 : decode prog_137_method_2_code 42 = .ok (.ifCond .lt 7, 3) := by decide +kernel
theorem d1_45 : decode prog_137_method_2_code 45 = .ok (.iconst 1, 1) := by decide +kernel
theorem d1_46 : decode prog_137_method_2_code 46 = .ok (.goto 4, 3) := by decide +kernel
theorem d1_49 : decode prog_137_method_2_code 49 = .ok (.iconst 0, 1) := by decide +kernel
theorem d1_50 : decode prog_137_method_2_code 50 = .ok (.ireturn, 1) := by decide +kernel
theorem d2_0 : decode jdk_42_method_79_code 0 = .ok (.aload_n 0, 1) := by decide +kernel
theorem d2_1 : decode jdk_42_method_79_code 1 = .ok (.iload_n 1, 1) := by decide +kernel
theorem d2_2 : decode jdk_42_method_79_code 2 = .ok (.iconst 0, 1) := by decide +kernel
theorem d2_3 : decode jdk_42_method_79_code 3 = .ok (.invokevirtual 633, 3) := by decide +kernel
theorem d2_6 : decode jdk_42_method_79_code 6 = .ok (.ireturn, 1) := by decide +kernel
theorem d3_0 : decode jdk_42_method_80_code 0 = .ok (.aload_n 0, 1) := by decide +kernel
theorem d3_1 : decode jdk_42_method_80_code 1 = .ok (.invokevirtual 492, 3) := by decide +kernel
theorem d3_4 : decode jdk_42_method_80_code 4 = .ok (.ifCond .eq 19, 3) := by decide +kernel
theorem d3_7 : decode jdk_42_method_80_code 7 = .ok (.aload_n 0, 1) := by decide +kernel
theorem d3_8 : decode jdk_42_method_80_code 8 = .ok (.getfield 9, 3) := by decide +kernel
theorem d3_11 : decode jdk_42_method_80_code 11 = .ok (.iload_n 1, 1) := by decide +kernel
theorem d3_12 : decode jdk_42_method_80_code 12 = .ok (.iload_n 2, 1) := by decide +kernel
theorem d3_13 : decode jdk_42_method_80_code 13 = .ok (.aload_n 0, 1) := by decide +kernel
theorem d3_14 : decode jdk_42_method_80_code 14 = .ok (.invokevirtual 505, 3) := by decide +kernel
theorem d3_17 : decode jdk_42_method_80_code 17 = .ok (.invokestatic 637, 3) := by decide +kernel
theorem d3_20 : decode jdk_42_method_80_code 20 = .ok (.goto 16, 3) := by decide +kernel
theorem d3_36 : decode jdk_42_method_80_code 36 = .ok (.ireturn, 1) := by decide +kernel
theorem d4_0 : decode jdk_42_method_154_code 0 = .ok (.getstatic 38, 3) := by decide +kernel
theorem d4_3 : decode jdk_42_method_154_code 3 = .ok (.ifCond .eq 14, 3) := by decide +kernel
theorem d4_6 : decode jdk_42_method_154_code 6 = .ok (.aload_n 0, 1) := by decide +kernel
theorem d4_7 : decode jdk_42_method_154_code 7 = .ok (.getfield 15, 3) := by decide +kernel
theorem d4_10 : decode jdk_42_method_154_code 10 = .ok (.ifCond .ne 7, 3) := by decide +kernel
theorem d4_13 : decode jdk_42_method_154_code 13 = .ok (.iconst 1, 1) := by decide +kernel
theorem d4_14 : decode jdk_42_method_154_code 14 = .ok (.goto 4, 3) := by decide +kernel
theorem d4_18 : decode jdk_42_method_154_code 18 = .ok (.ireturn, 1) := by decide +kernel
theorem d5_0 : decode jdk_42_method_54_code 0 = .ok (.aload_n 0, 1) := by decide +kernel
theorem d5_1 : decode jdk_42_method_54_code 1 = .ok (.getfield 9, 3) := by decide +kernel
theorem d5_4 : decode jdk_42_method_54_code 4 = .ok (.arraylength, 1) := by decide +kernel
theorem d5_5 : decode jdk_42_method_54_code 5 = .ok (.aload_n 0, 1) := by decide +kernel
theorem d5_6 : decode jdk_42_method_54_code 6 = .ok (.invokevirtual 335, 3) := by decide +kernel
theorem d5_9 : decode jdk_42_method_54_code 9 = .ok (.ishr, 1) := by decide +kernel
theorem d5_10 : decode jdk_42_method_54_code 10 = .ok (.ireturn, 1) := by decide +kernel
theorem d6_0 : decode jdk_42_method_152_code 0 = .ok (.getstatic 38, 3) := by decide +kernel
theorem d6_3 : decode jdk_42_method_152_code 3 = .ok (.ifCond .eq 10, 3) := by decide +kernel
theorem d6_6 : decode jdk_42_method_152_code 6 = .ok (.aload_n 0, 1) := by decide +kernel
theorem d6_7 : decode jdk_42_method_152_code 7 = .ok (.getfield 15, 3) := by decide +kernel
theorem d6_10 : decode jdk_42_method_152_code 10 = .ok (.goto 4, 3) := by decide +kernel
theorem d6_14 : decode jdk_42_method_152_code 14 = .ok (.ireturn, 1) := by decide +kernel
theorem d7_0 : decode jdk_43_method_22_code 0 = .ok (.iload_n 1, 1) := by decide +kernel
theorem d7_1 : decode jdk_43_method_22_code 1 = .ok (.invokestatic 88, 3) := by decide +kernel
theorem d7_4 : decode jdk_43_method_22_code 4 = .ok (.ifCond .ne 5, 3) := by decide +kernel
theorem d7_7 : decode jdk_43_method_22_code 7 = .ok (.iconst (-1), 1) := by decide +kernel
theorem d7_8 : decode jdk_43_method_22_code 8 = .ok (.ireturn, 1) := by decide +kernel
theorem d7_9 : decode jdk_43_method_22_code 9 = .ok (.iload_n 2, 1) := by decide +kernel
theorem d7_10 : decode jdk_43_method_22_code 10 = .ok (.iconst 0, 1) := by decide +kernel
theorem d7_11 : decode jdk_43_method_22_code 11 = .ok (.invokestatic 92, 3) := by decide +kernel
theorem d7_14 : decode jdk_43_method_22_code 14 = .ok (.istore_n 2, 1) := by decide +kernel
theorem d7_15 : decode jdk_43_method_22_code 15 = .ok (.iload_n 3, 1) := by decide +kernel
theorem d7_16 : decode jdk_43_method_22_code 16 = .ok (.aload_n 0, 1) := by decide +kernel
theorem d7_17 : decode jdk_43_method_22_code 17 = .ok (.arraylength, 1) := by decide +kernel
theorem d7_18 : decode jdk_43_method_22_code 18 = .ok (.invokestatic 38, 3) := by decide +kernel
theorem d7_21 : decode jdk_43_method_22_code 21 = .ok (.istore_n 3, 1) := by decide +kernel
theorem d7_22 : decode jdk_43_method_22_code 22 = .ok (.iload_n 2, 1) := by decide +kernel
theorem d7_23 : decode jdk_43_method_22_code 23 = .ok (.iload_n 3, 1) := by decide +kernel
theorem d7_24 : decode jdk_43_method_22_code 24 = .ok (.if_icmp .lt 5, 3) := by decide +kernel
theorem d7_29 : decode jdk_43_method_22_code 29 = .ok (.aload_n 0, 1) := by decide +kernel
theorem d7_30 : decode jdk_43_method_22_code 30 = .ok (.iload_n 1, 1) := by decide +kernel
theorem d7_31 : decode jdk_43_method_22_code 31 = .ok (.iload_n 2, 1) := by decide +kernel
theorem d7_32 : decode jdk_43_method_22_code 32 = .ok (.iload_n 3, 1) := by decide +kernel
theorem d7_33 : decode jdk_43_method_22_code 33 = .ok (.invokestatic 95, 3) := by decide +kernel
theorem d7_36 : decode jdk_43_method_22_code 36 = .ok (.ireturn, 1) := by decide +kernel
theorem d8_0 : decode jdk_43_method_4_code 0 = .ok (.iload_n 0, 1) := by decide +kernel
theorem d8_1 : decode jdk_43_method_4_code 1 = .ok (.ifCond .lt 14, 3) := by decide +kernel
theorem d8_4 : decode jdk_43_method_4_code 4 = .ok (.iload_n 0, 1) := by decide +kernel
theorem d8_5 : decode jdk_43_method_4_code 5 = .ok (.sipush 255, 3) := by decide +kernel
theorem d8_8 : decode jdk_43_method_4_code 8 = .ok (.if_icmp .gt 7, 3) := by decide +kernel
theorem d8_11 : decode jdk_43_method_4_code 11 = .ok (.iconst 1, 1) := by decide +kernel
theorem d8_12 : decode jdk_43_method_4_code 12 = .ok (.goto 4, 3) := by decide +kernel
theorem d8_15 : decode jdk_43_method_4_code 15 = .ok (.iconst 0, 1) := by decide +kernel
theorem d8_16 : decode jdk_43_method_4_code 16 = .ok (.ireturn, 1) := by decide +kernel
theorem d9_0 : decode jdk_29_method_65_code 0 = .ok (.iload_n 0, 1) := by decide +kernel
theorem d9_1 : decode jdk_29_method_65_code 1 = .ok (.iload_n 1, 1) := by decide +kernel
theorem d9_2 : decode jdk_29_method_65_code 2 = .ok (.if_icmp .lt 7, 3) := by decide +kernel
theorem d9_5 : decode jdk_29_method_65_code 5 = .ok (.iload_n 0, 1) := by decide +kernel
theorem d9_6 : decode jdk_29_method_65_code 6 = .ok (.goto 4, 3) := by decide +kernel
theorem d9_10 : decode jdk_29_method_65_code 10 = .ok (.ireturn, 1) := by decide +kernel
theorem d10_0 : decode jdk_29_method_69_code 0 = .ok (.iload_n 0, 1) := by decide +kernel
theorem d10_1 : decode jdk_29_method_69_code 1 = .ok (.iload_n 1, 1) := by decide +kernel
theorem d10_2 : decode jdk_29_method_69_code 2 = .ok (.if_icmp .gt 7, 3) := by decide +kernel
theorem d10_5 : decode jdk_29_method_69_code 5 = .ok (.iload_n 0, 1) := by decide +kernel
theorem d10_6 : decode jdk_29_method_69_code 6 = .ok (.goto 4, 3) := by decide +kernel
theorem d10_10 : decode jdk_29_method_69_code 10 = .ok (.ireturn, 1) := by decide +kernel
theorem d11_0 : decode jdk_43_method_23_code 0 = .ok (.iload_n 1, 1) := by decide +kernel
theorem d11_1 : decode jdk_43_method_23_code 1 = .ok (.i2b, 1) := by decide +kernel
theorem d11_2 : decode jdk_43_method_23_code 2 = .ok (.istore 4, 2) := by decide +kernel
theorem d11_4 : decode jdk_43_method_23_code 4 = .ok (.iload_n 2, 1) := by decide +kernel
theorem d11_5 : decode jdk_43_method_23_code 5 = .ok (.istore 5, 2) := by decide +kernel
theorem d11_7 : decode jdk_43_method_23_code 7 = .ok (.iload 5, 2) := by decide +kernel
theorem d11_9 : decode jdk_43_method_23_code 9 = .ok (.iload_n 3, 1) := by decide +kernel
theorem d11_10 : decode jdk_43_method_23_code 10 = .ok (.if_icmp .ge 21, 3) := by decide +kernel
theorem d11_13 : decode jdk_43_method_23_code 13 = .ok (.aload_n 0, 1) := by decide +kernel
theorem d11_14 : decode jdk_43_method_23_code 14 = .ok (.iload 5, 2) := by decide +kernel
theorem d11_16 : decode jdk_43_method_23_code 16 = .ok (.baload, 1) := by decide +kernel
theorem d11_17 : decode jdk_43_method_23_code 17 = .ok (.iload 4, 2) := by decide +kernel
theorem d11_19 : decode jdk_43_method_23_code 19 = .ok (.if_icmp .ne 6, 3) := by decide +kernel
theorem d11_22 : decode jdk_43_method_23_code 22 = .ok (.iload 5, 2) := by decide +kernel
theorem d11_24 : decode jdk_43_method_23_code 24 = .ok (.ireturn, 1) := by decide +kernel
theorem d11_25 : decode jdk_43_method_23_code 25 = .ok (.iinc 5 1, 3) := by decide +kernel
theorem d11_28 : decode jdk_43_method_23_code 28 = .ok (.goto (-21), 3) := by decide +kernel
theorem d11_31 : decode jdk_43_method_23_code 31 = .ok (.iconst (-1), 1) := by decide +kernel
theorem d11_32 : decode jdk_43_method_23_code 32 = .ok (.ireturn, 1) := by decide +kernel
theorem d12_0 : decode method_2_code 0 = .ok (.iload_n 0, 1) := by decide +kernel
theorem d12_1 : decode method_2_code 1 = .ok (.bipush 34, 2) := by decide +kernel
theorem d12_3 : decode method_2_code 3 = .ok (.if_icmp .eq 63, 3) := by decide +kernel
theorem d12_6 : decode method_2_code 6 = .ok (.iload_n 0, 1) := by decide +kernel
theorem d12_7 : decode method_2_code 7 = .ok (.bipush 40, 2) := by decide +kernel
theorem d12_9 : decode method_2_code 9 = .ok (.if_icmp .eq 57, 3) := by decide +kernel
theorem d12_12 : decode method_2_code 12 = .ok (.iload_n 0, 1) := by decide +kernel
theorem d12_13 : decode method_2_code 13 = .ok (.bipush 41, 2) := by decide +kernel
theorem d12_15 : decode method_2_code 15 = .ok (.if_icmp .eq 51, 3) := by decide +kernel
theorem d12_18 : decode method_2_code 18 = .ok (.iload_n 0, 1) := by decide +kernel
theorem d12_19 : decode method_2_code 19 = .ok (.bipush 44, 2) := by decide +kernel
theorem d12_21 : decode method_2_code 21 = .ok (.if_icmp .eq 45, 3) := by decide +kernel
theorem d12_24 : decode method_2_code 24 = .ok (.iload_n 0, 1) := by decide +kernel
theorem d12_25 : decode method_2_code 25 = .ok (.bipush 47, 2) := by decide +kernel
theorem d12_27 : decode method_2_code 27 = .ok (.if_icmp .eq 39, 3) := by decide +kernel
theorem d12_30 : decode method_2_code 30 = .ok (.iload_n 0, 1) := by decide +kernel
theorem d12_31 : decode method_2_code 31 = .ok (.bipush 58, 2) := by decide +kernel
theorem d12_33 : decode method_2_code 33 = .ok (.if_icmp .lt 9, 3) := by decide +kernel
theorem d12_36 : decode method_2_code 36 = .ok (.iload_n 0, 1) := by decide +kernel
theorem d12_37 : decode method_2_code 37 = .ok (.bipush 64, 2) := by decide +kernel
theorem d12_39 : decode method_2_code 39 = .ok (.if_icmp .le 27, 3) := by decide +kernel
theorem d12_42 : decode method_2_code 42 = .ok (.iload_n 0, 1) := by decide +kernel
theorem d12_43 : decode method_2_code 43 = .ok (.bipush 91, 2) := by decide +kernel
theorem d12_45 : decode method_2_code 45 = .ok (.if_icmp .lt 9, 3) := by decide +kernel
theorem d12_48 : decode method_2_code 48 = .ok (.iload_n 0, 1) := by decide +kernel
theorem d12_49 : decode method_2_code 49 = .ok (.bipush 93, 2) := by decide +kernel
theorem d12_51 : decode method_2_code 51 = .ok (.if_icmp .le 15, 3) := by decide +kernel
theorem d12_54 : decode method_2_code 54 = .ok (.iload_n 0, 1) := by decide +kernel
theorem d12_55 : decode method_2_code 55 = .ok (.bipush 123, 2) := by decide +kernel
theorem d12_57 : decode method_2_code 57 = .ok (.if_icmp .eq 9, 3) := by decide +kernel
theorem d12_60 : decode method_2_code 60 = .ok (.iload_n 0, 1) := by decide +kernel
theorem d12_61 : decode method_2_code 61 = .ok (.bipush 125, 2) := by decide +kernel
theorem d12_63 : decode method_2_code 63 = .ok (.if_icmp .ne 7, 3) := by decide +kernel
theorem d12_66 : decode method_2_code 66 = .ok (.iconst 1, 1) := by decide +kernel
theorem d12_67 : decode method_2_code 67 = .ok (.goto 4, 3) := by decide +kernel
theorem d12_70 : decode method_2_code 70 = .ok (.iconst 0, 1) := by decide +kernel
theorem d12_71 : decode method_2_code 71 = .ok (.ireturn, 1) := by decide +kernel
theorem pd_0 : parseMethodDescriptor "()B" = some ⟨[], some .byte⟩ := by decide +kernel
theorem pd_1 : parseMethodDescriptor "(I)Z" = some ⟨[.int], some .boolean⟩ := by decide +kernel
theorem pd_2 : parseMethodDescriptor "(II)I" = some ⟨[.int, .int], some .int⟩ := by decide +kernel
theorem pd_3 : parseMethodDescriptor "([BIII)I" = some ⟨[(.array .byte), .int, .int, .int], some .int⟩ := by decide +kernel
theorem pd_4 : parseMethodDescriptor "()Z" = some ⟨[], some .boolean⟩ := by decide +kernel
theorem pd_5 : parseMethodDescriptor "()I" = some ⟨[], some .int⟩ := by decide +kernel
theorem pd_6 : parseMethodDescriptor "(I)I" = some ⟨[.int], some .int⟩ := by decide +kernel
theorem pd_7 : parseMethodDescriptor "(C)Z" = some ⟨[.char], some .boolean⟩ := by decide +kernel
def own_del (p : Int32) : Prop := p.toInt = 34 ∨ p.toInt = 40 ∨ p.toInt = 41 ∨ p.toInt = 44 ∨ p.toInt = 47 ∨ (58 ≤ p.toInt ∧ p.toInt ≤ 64) ∨ (91 ≤ p.toInt ∧ p.toInt ≤ 93) ∨ p.toInt = 123 ∨ p.toInt = 125
def own_tokS (p : Int32) : Prop := p.toInt = 33 ∨ p.toInt = 35 ∨ p.toInt = 36 ∨ p.toInt = 37 ∨ p.toInt = 38 ∨ p.toInt = 39 ∨ p.toInt = 42 ∨ p.toInt = 43 ∨ p.toInt = 45 ∨ p.toInt = 46 ∨ p.toInt = 94 ∨ p.toInt = 95 ∨ p.toInt = 96 ∨ p.toInt = 124 ∨ p.toInt = 126
def own_tok (p : Int32) : Prop := (97 ≤ p.toInt ∧ p.toInt ≤ 122) ∨ (65 ≤ p.toInt ∧ p.toInt ≤ 90) ∨ (48 ≤ p.toInt ∧ p.toInt ≤ 57) ∨ own_tokS p
def own_vs : List Value := [.int 33, .int 35, .int 36, .int 37, .int 38, .int 39, .int 42, .int 43, .int 45, .int 46, .int 94, .int 95, .int 96, .int 124, .int 126]
theorem own_ht : (∀ c ∈ "!#$%&'*+-.^_`|~".toList, c.toNat < 256) ∧ "!#$%&'*+-.^_`|~".toList.map (fun c => Value.int (Jvm.Lit.byteI c.toNat.toUInt16)) = own_vs := by
  refine ⟨by decide, ?_⟩
  simp [own_vs]
  decide
theorem own_same {P : Prop} {i e : Int32} (hi : i = 1 ∧ P ∨ i = 0 ∧ ¬ P) (he : e = 1 ∧ P ∨ e = 0 ∧ ¬ P) : i = e := by
  rcases hi with ⟨rfl, a⟩ | ⟨rfl, a⟩ <;> rcases he with ⟨rfl, b⟩ | ⟨rfl, b⟩ <;> first | rfl | exact absurd a b | exact absurd b a
def R_s_del : Room := ({ frames := 0, cells := 0, slots := 0, locals := 0 } : Room)
set_option maxRecDepth 65536 in
set_option maxHeartbeats 40000000 in
theorem s_del {l : Launch} {Z : State} {a0 : Array Value} (hw : ∀ d ∈ tables_1, d.before a0 Z = true) {h0 : Heap} {n0 : Nat} (p : Int32)  :
    Met l Z (⟨"com/example/guardbee/guardbee/util/HttpSyntaxIsTokenCharacterPinLaw", "isDelimiter", "(C)Z"⟩ : MethodName) method_2_code 1 (some .boolean) R_s_del n0 h0 #[(.int p)] (fun r h => h0 = h ∧ ∃ i : Int32, r = some (.int i) ∧ (i = 1 ∧ own_del p ∨ i = 0 ∧ ¬ own_del p)) := by
  refine Met.intro (plainFor_of_name (by first | (simp [plainName, overriddenIn, x]; done) | decide +kernel)) (fun m => (show entryFrame m #[(.int p)] 1 = mkF m 0 #[.val (.int p)] [] from by first | rfl | (simp [entryFrame, mkF, argsToLocals, Value.category]; done))) (fun w Y C => ?_)
  refine g_iloadN C d12_0 (pc' := 1) rfl rfl ?_
  refine g_bipush C (z := (34 : Int32)) d12_1 (pc' := 3) rfl rfl ?_
  refine g_icmp_eq C d12_3 (by decide) (pc' := 66) (by decide) (pcN := 6) rfl (fun q3 => ?_) (fun q3 => ?_)
  · have z3 : p.toInt = 34 := congrArg Int32.toInt q3
    refine g_iconst C (z := (1 : Int32)) d12_66 (pc' := 67) rfl rfl ?_
    refine g_goto C d12_67 (by decide) (pc' := 71) (by decide) ?_
    exact g_retN C (t := .boolean) rfl (by simp) d12_71 ⟨rfl, 1, rfl, Or.inl ⟨rfl, by unfold own_del; omega⟩⟩ (by decide) (by decide)
  · have z3 : ¬ p.toInt = 34 := fun a => q3 (Int32.toInt_inj.mp a)
    refine g_iloadN C d12_6 (pc' := 7) rfl rfl ?_
    refine g_bipush C (z := (40 : Int32)) d12_7 (pc' := 9) rfl rfl ?_
    refine g_icmp_eq C d12_9 (by decide) (pc' := 66) (by decide) (pcN := 12) rfl (fun q9 => ?_) (fun q9 => ?_)
    · have z9 : p.toInt = 40 := congrArg Int32.toInt q9
      refine g_iconst C (z := (1 : Int32)) d12_66 (pc' := 67) rfl rfl ?_
      refine g_goto C d12_67 (by decide) (pc' := 71) (by decide) ?_
      exact g_retN C (t := .boolean) rfl (by simp) d12_71 ⟨rfl, 1, rfl, Or.inl ⟨rfl, by unfold own_del; omega⟩⟩ (by decide) (by decide)
    · have z9 : ¬ p.toInt = 40 := fun a => q9 (Int32.toInt_inj.mp a)
      refine g_iloadN C d12_12 (pc' := 13) rfl rfl ?_
      refine g_bipush C (z := (41 : Int32)) d12_13 (pc' := 15) rfl rfl ?_
      refine g_icmp_eq C d12_15 (by decide) (pc' := 66) (by decide) (pcN := 18) rfl (fun q15 => ?_) (fun q15 => ?_)
      · have z15 : p.toInt = 41 := congrArg Int32.toInt q15
        refine g_iconst C (z := (1 : Int32)) d12_66 (pc' := 67) rfl rfl ?_
        refine g_goto C d12_67 (by decide) (pc' := 71) (by decide) ?_
        exact g_retN C (t := .boolean) rfl (by simp) d12_71 ⟨rfl, 1, rfl, Or.inl ⟨rfl, by unfold own_del; omega⟩⟩ (by decide) (by decide)
      · have z15 : ¬ p.toInt = 41 := fun a => q15 (Int32.toInt_inj.mp a)
        refine g_iloadN C d12_18 (pc' := 19) rfl rfl ?_
        refine g_bipush C (z := (44 : Int32)) d12_19 (pc' := 21) rfl rfl ?_
        refine g_icmp_eq C d12_21 (by decide) (pc' := 66) (by decide) (pcN := 24) rfl (fun q21 => ?_) (fun q21 => ?_)
        · have z21 : p.toInt = 44 := congrArg Int32.toInt q21
          refine g_iconst C (z := (1 : Int32)) d12_66 (pc' := 67) rfl rfl ?_
          refine g_goto C d12_67 (by decide) (pc' := 71) (by decide) ?_
          exact g_retN C (t := .boolean) rfl (by simp) d12_71 ⟨rfl, 1, rfl, Or.inl ⟨rfl, by unfold own_del; omega⟩⟩ (by decide) (by decide)
        · have z21 : ¬ p.toInt = 44 := fun a => q21 (Int32.toInt_inj.mp a)
          refine g_iloadN C d12_24 (pc' := 25) rfl rfl ?_
          refine g_bipush C (z := (47 : Int32)) d12_25 (pc' := 27) rfl rfl ?_
          refine g_icmp_eq C d12_27 (by decide) (pc' := 66) (by decide) (pcN := 30) rfl (fun q27 => ?_) (fun q27 => ?_)
          · have z27 : p.toInt = 47 := congrArg Int32.toInt q27
            refine g_iconst C (z := (1 : Int32)) d12_66 (pc' := 67) rfl rfl ?_
            refine g_goto C d12_67 (by decide) (pc' := 71) (by decide) ?_
            exact g_retN C (t := .boolean) rfl (by simp) d12_71 ⟨rfl, 1, rfl, Or.inl ⟨rfl, by unfold own_del; omega⟩⟩ (by decide) (by decide)
          · have z27 : ¬ p.toInt = 47 := fun a => q27 (Int32.toInt_inj.mp a)
            refine g_iloadN C d12_30 (pc' := 31) rfl rfl ?_
            refine g_bipush C (z := (58 : Int32)) d12_31 (pc' := 33) rfl rfl ?_
            refine g_icmp_lt C d12_33 (by decide) (pc' := 42) (by decide) (pcN := 36) rfl (fun q33 => ?_) (fun q33 => ?_)
            · have z33 : p.toInt < 58 := Int32.lt_iff_toInt_lt.mp q33
              refine g_iloadN C d12_42 (pc' := 43) rfl rfl ?_
              refine g_bipush C (z := (91 : Int32)) d12_43 (pc' := 45) rfl rfl ?_
              refine g_icmp_lt C d12_45 (by decide) (pc' := 54) (by decide) (pcN := 48) rfl (fun q45 => ?_) (fun q45 => ?_)
              · have z45 : p.toInt < 91 := Int32.lt_iff_toInt_lt.mp q45
                refine g_iloadN C d12_54 (pc' := 55) rfl rfl ?_
                refine g_bipush C (z := (123 : Int32)) d12_55 (pc' := 57) rfl rfl ?_
                refine g_icmp_eq C d12_57 (by decide) (pc' := 66) (by decide) (pcN := 60) rfl (fun q57 => ?_) (fun q57 => ?_)
                · have z57 : p.toInt = 123 := congrArg Int32.toInt q57
                  refine g_iconst C (z := (1 : Int32)) d12_66 (pc' := 67) rfl rfl ?_
                  refine g_goto C d12_67 (by decide) (pc' := 71) (by decide) ?_
                  exact g_retN C (t := .boolean) rfl (by simp) d12_71 ⟨rfl, 1, rfl, Or.inl ⟨rfl, by unfold own_del; omega⟩⟩ (by decide) (by decide)
                · have z57 : ¬ p.toInt = 123 := fun a => q57 (Int32.toInt_inj.mp a)
                  refine g_iloadN C d12_60 (pc' := 61) rfl rfl ?_
                  refine g_bipush C (z := (125 : Int32)) d12_61 (pc' := 63) rfl rfl ?_
                  refine g_icmp_ne C d12_63 (by decide) (pc' := 70) (by decide) (pcN := 66) rfl (fun q63 => ?_) (fun q63 => ?_)
                  · have z63 : ¬ p.toInt = 125 := fun a => q63 (Int32.toInt_inj.mp a)
                    refine g_iconst C (z := (0 : Int32)) d12_70 (pc' := 71) rfl rfl ?_
                    exact g_retN C (t := .boolean) rfl (by simp) d12_71 ⟨rfl, 0, rfl, Or.inr ⟨rfl, by unfold own_del; omega⟩⟩ (by decide) (by decide)
                  · have z63 : p.toInt = 125 := congrArg Int32.toInt q63
                    refine g_iconst C (z := (1 : Int32)) d12_66 (pc' := 67) rfl rfl ?_
                    refine g_goto C d12_67 (by decide) (pc' := 71) (by decide) ?_
                    exact g_retN C (t := .boolean) rfl (by simp) d12_71 ⟨rfl, 1, rfl, Or.inl ⟨rfl, by unfold own_del; omega⟩⟩ (by decide) (by decide)
              · have z45 : ¬ p.toInt < 91 := fun a => q45 (Int32.lt_iff_toInt_lt.mpr a)
                refine g_iloadN C d12_48 (pc' := 49) rfl rfl ?_
                refine g_bipush C (z := (93 : Int32)) d12_49 (pc' := 51) rfl rfl ?_
                refine g_icmp_le C d12_51 (by decide) (pc' := 66) (by decide) (pcN := 54) rfl (fun q51 => ?_) (fun q51 => ?_)
                · have z51 : ¬ 93 < p.toInt := fun a => q51 (Int32.lt_iff_toInt_lt.mpr a)
                  refine g_iconst C (z := (1 : Int32)) d12_66 (pc' := 67) rfl rfl ?_
                  refine g_goto C d12_67 (by decide) (pc' := 71) (by decide) ?_
                  exact g_retN C (t := .boolean) rfl (by simp) d12_71 ⟨rfl, 1, rfl, Or.inl ⟨rfl, by unfold own_del; omega⟩⟩ (by decide) (by decide)
                · have z51 : 93 < p.toInt := Int32.lt_iff_toInt_lt.mp q51
                  refine g_iloadN C d12_54 (pc' := 55) rfl rfl ?_
                  refine g_bipush C (z := (123 : Int32)) d12_55 (pc' := 57) rfl rfl ?_
                  refine g_icmp_eq C d12_57 (by decide) (pc' := 66) (by decide) (pcN := 60) rfl (fun q57 => ?_) (fun q57 => ?_)
                  · have z57 : p.toInt = 123 := congrArg Int32.toInt q57
                    refine g_iconst C (z := (1 : Int32)) d12_66 (pc' := 67) rfl rfl ?_
                    refine g_goto C d12_67 (by decide) (pc' := 71) (by decide) ?_
                    exact g_retN C (t := .boolean) rfl (by simp) d12_71 ⟨rfl, 1, rfl, Or.inl ⟨rfl, by unfold own_del; omega⟩⟩ (by decide) (by decide)
                  · have z57 : ¬ p.toInt = 123 := fun a => q57 (Int32.toInt_inj.mp a)
                    refine g_iloadN C d12_60 (pc' := 61) rfl rfl ?_
                    refine g_bipush C (z := (125 : Int32)) d12_61 (pc' := 63) rfl rfl ?_
                    refine g_icmp_ne C d12_63 (by decide) (pc' := 70) (by decide) (pcN := 66) rfl (fun q63 => ?_) (fun q63 => ?_)
                    · have z63 : ¬ p.toInt = 125 := fun a => q63 (Int32.toInt_inj.mp a)
                      refine g_iconst C (z := (0 : Int32)) d12_70 (pc' := 71) rfl rfl ?_
                      exact g_retN C (t := .boolean) rfl (by simp) d12_71 ⟨rfl, 0, rfl, Or.inr ⟨rfl, by unfold own_del; omega⟩⟩ (by decide) (by decide)
                    · have z63 : p.toInt = 125 := congrArg Int32.toInt q63
                      refine g_iconst C (z := (1 : Int32)) d12_66 (pc' := 67) rfl rfl ?_
                      refine g_goto C d12_67 (by decide) (pc' := 71) (by decide) ?_
                      exact g_retN C (t := .boolean) rfl (by simp) d12_71 ⟨rfl, 1, rfl, Or.inl ⟨rfl, by unfold own_del; omega⟩⟩ (by decide) (by decide)
            · have z33 : ¬ p.toInt < 58 := fun a => q33 (Int32.lt_iff_toInt_lt.mpr a)
              refine g_iloadN C d12_36 (pc' := 37) rfl rfl ?_
              refine g_bipush C (z := (64 : Int32)) d12_37 (pc' := 39) rfl rfl ?_
              refine g_icmp_le C d12_39 (by decide) (pc' := 66) (by decide) (pcN := 42) rfl (fun q39 => ?_) (fun q39 => ?_)
              · have z39 : ¬ 64 < p.toInt := fun a => q39 (Int32.lt_iff_toInt_lt.mpr a)
                refine g_iconst C (z := (1 : Int32)) d12_66 (pc' := 67) rfl rfl ?_
                refine g_goto C d12_67 (by decide) (pc' := 71) (by decide) ?_
                exact g_retN C (t := .boolean) rfl (by simp) d12_71 ⟨rfl, 1, rfl, Or.inl ⟨rfl, by unfold own_del; omega⟩⟩ (by decide) (by decide)
              · have z39 : 64 < p.toInt := Int32.lt_iff_toInt_lt.mp q39
                refine g_iloadN C d12_42 (pc' := 43) rfl rfl ?_
                refine g_bipush C (z := (91 : Int32)) d12_43 (pc' := 45) rfl rfl ?_
                refine g_icmp_lt C d12_45 (by decide) (pc' := 54) (by decide) (pcN := 48) rfl (fun q45 => ?_) (fun q45 => ?_)
                · have z45 : p.toInt < 91 := Int32.lt_iff_toInt_lt.mp q45
                  refine g_iloadN C d12_54 (pc' := 55) rfl rfl ?_
                  refine g_bipush C (z := (123 : Int32)) d12_55 (pc' := 57) rfl rfl ?_
                  refine g_icmp_eq C d12_57 (by decide) (pc' := 66) (by decide) (pcN := 60) rfl (fun q57 => ?_) (fun q57 => ?_)
                  · have z57 : p.toInt = 123 := congrArg Int32.toInt q57
                    refine g_iconst C (z := (1 : Int32)) d12_66 (pc' := 67) rfl rfl ?_
                    refine g_goto C d12_67 (by decide) (pc' := 71) (by decide) ?_
                    exact g_retN C (t := .boolean) rfl (by simp) d12_71 ⟨rfl, 1, rfl, Or.inl ⟨rfl, by unfold own_del; omega⟩⟩ (by decide) (by decide)
                  · have z57 : ¬ p.toInt = 123 := fun a => q57 (Int32.toInt_inj.mp a)
                    refine g_iloadN C d12_60 (pc' := 61) rfl rfl ?_
                    refine g_bipush C (z := (125 : Int32)) d12_61 (pc' := 63) rfl rfl ?_
                    refine g_icmp_ne C d12_63 (by decide) (pc' := 70) (by decide) (pcN := 66) rfl (fun q63 => ?_) (fun q63 => ?_)
                    · have z63 : ¬ p.toInt = 125 := fun a => q63 (Int32.toInt_inj.mp a)
                      refine g_iconst C (z := (0 : Int32)) d12_70 (pc' := 71) rfl rfl ?_
                      exact g_retN C (t := .boolean) rfl (by simp) d12_71 ⟨rfl, 0, rfl, Or.inr ⟨rfl, by unfold own_del; omega⟩⟩ (by decide) (by decide)
                    · have z63 : p.toInt = 125 := congrArg Int32.toInt q63
                      refine g_iconst C (z := (1 : Int32)) d12_66 (pc' := 67) rfl rfl ?_
                      refine g_goto C d12_67 (by decide) (pc' := 71) (by decide) ?_
                      exact g_retN C (t := .boolean) rfl (by simp) d12_71 ⟨rfl, 1, rfl, Or.inl ⟨rfl, by unfold own_del; omega⟩⟩ (by decide) (by decide)
                · have z45 : ¬ p.toInt < 91 := fun a => q45 (Int32.lt_iff_toInt_lt.mpr a)
                  refine g_iloadN C d12_48 (pc' := 49) rfl rfl ?_
                  refine g_bipush C (z := (93 : Int32)) d12_49 (pc' := 51) rfl rfl ?_
                  refine g_icmp_le C d12_51 (by decide) (pc' := 66) (by decide) (pcN := 54) rfl (fun q51 => ?_) (fun q51 => ?_)
                  · have z51 : ¬ 93 < p.toInt := fun a => q51 (Int32.lt_iff_toInt_lt.mpr a)
                    refine g_iconst C (z := (1 : Int32)) d12_66 (pc' := 67) rfl rfl ?_
                    refine g_goto C d12_67 (by decide) (pc' := 71) (by decide) ?_
                    exact g_retN C (t := .boolean) rfl (by simp) d12_71 ⟨rfl, 1, rfl, Or.inl ⟨rfl, by unfold own_del; omega⟩⟩ (by decide) (by decide)
                  · have z51 : 93 < p.toInt := Int32.lt_iff_toInt_lt.mp q51
                    refine g_iloadN C d12_54 (pc' := 55) rfl rfl ?_
                    refine g_bipush C (z := (123 : Int32)) d12_55 (pc' := 57) rfl rfl ?_
                    refine g_icmp_eq C d12_57 (by decide) (pc' := 66) (by decide) (pcN := 60) rfl (fun q57 => ?_) (fun q57 => ?_)
                    · have z57 : p.toInt = 123 := congrArg Int32.toInt q57
                      refine g_iconst C (z := (1 : Int32)) d12_66 (pc' := 67) rfl rfl ?_
                      refine g_goto C d12_67 (by decide) (pc' := 71) (by decide) ?_
                      exact g_retN C (t := .boolean) rfl (by simp) d12_71 ⟨rfl, 1, rfl, Or.inl ⟨rfl, by unfold own_del; omega⟩⟩ (by decide) (by decide)
                    · have z57 : ¬ p.toInt = 123 := fun a => q57 (Int32.toInt_inj.mp a)
                      refine g_iloadN C d12_60 (pc' := 61) rfl rfl ?_
                      refine g_bipush C (z := (125 : Int32)) d12_61 (pc' := 63) rfl rfl ?_
                      refine g_icmp_ne C d12_63 (by decide) (pc' := 70) (by decide) (pcN := 66) rfl (fun q63 => ?_) (fun q63 => ?_)
                      · have z63 : ¬ p.toInt = 125 := fun a => q63 (Int32.toInt_inj.mp a)
                        refine g_iconst C (z := (0 : Int32)) d12_70 (pc' := 71) rfl rfl ?_
                        exact g_retN C (t := .boolean) rfl (by simp) d12_71 ⟨rfl, 0, rfl, Or.inr ⟨rfl, by unfold own_del; omega⟩⟩ (by decide) (by decide)
                      · have z63 : p.toInt = 125 := congrArg Int32.toInt q63
                        refine g_iconst C (z := (1 : Int32)) d12_66 (pc' := 67) rfl rfl ?_
                        refine g_goto C d12_67 (by decide) (pc' := 71) (by decide) ?_
                        exact g_retN C (t := .boolean) rfl (by simp) d12_71 ⟨rfl, 1, rfl, Or.inl ⟨rfl, by unfold own_del; omega⟩⟩ (by decide) (by decide)
def R_s_max : Room := ({ frames := 0, cells := 0, slots := 0, locals := 0 } : Room)
set_option maxRecDepth 65536 in
set_option maxHeartbeats 40000000 in
theorem s_max {l : Launch} {Z : State} {a0 : Array Value} (hw : ∀ d ∈ tables_1, d.before a0 Z = true) {h0 : Heap} {n0 : Nat}   :
    Met l Z (⟨"java/lang/Math", "max", "(II)I"⟩ : MethodName) jdk_29_method_65_code 2 (some .int) R_s_max n0 h0 #[(.int (0 : Int32)), (.int (0 : Int32))] (fun r h => r = some (.int 0) ∧ h0 = h) := by
  refine Met.intro (Jvm.Free.JP.mathPlain rfl (by decide +kernel)) (fun m => (show entryFrame m #[(.int (0 : Int32)), (.int (0 : Int32))] 2 = mkF m 0 #[.val (.int (0 : Int32)), .val (.int (0 : Int32))] [] from by first | rfl | (simp [entryFrame, mkF, argsToLocals, Value.category]; done))) (fun w Y C => ?_)
  refine g_iloadN C d9_0 (pc' := 1) rfl rfl ?_
  refine g_iloadN C d9_1 (pc' := 2) rfl rfl ?_
  refine g_icmp_lt C d9_2 (by decide) (pc' := 9) (by decide) (pcN := 5) rfl (fun q => absurd q (by decide)) (fun _ => ?_)
  refine g_iloadN C d9_5 (pc' := 6) rfl rfl ?_
  refine g_goto C d9_6 (by decide) (pc' := 10) (by decide) ?_
  exact g_retI C rfl d9_10 ⟨rfl, rfl⟩ (by decide) (by decide)
def R_s_min : Room := ({ frames := 0, cells := 0, slots := 0, locals := 0 } : Room)
set_option maxRecDepth 65536 in
set_option maxHeartbeats 40000000 in
theorem s_min {l : Launch} {Z : State} {a0 : Array Value} (hw : ∀ d ∈ tables_1, d.before a0 Z = true) {h0 : Heap} {n0 : Nat}   :
    Met l Z (⟨"java/lang/Math", "min", "(II)I"⟩ : MethodName) jdk_29_method_69_code 2 (some .int) R_s_min n0 h0 #[(.int (15 : Int32)), (.int (15 : Int32))] (fun r h => r = some (.int 15) ∧ h0 = h) := by
  refine Met.intro (Jvm.Free.JP.mathPlain rfl (by decide +kernel)) (fun m => (show entryFrame m #[(.int (15 : Int32)), (.int (15 : Int32))] 2 = mkF m 0 #[.val (.int (15 : Int32)), .val (.int (15 : Int32))] [] from by first | rfl | (simp [entryFrame, mkF, argsToLocals, Value.category]; done))) (fun w Y C => ?_)
  refine g_iloadN C d10_0 (pc' := 1) rfl rfl ?_
  refine g_iloadN C d10_1 (pc' := 2) rfl rfl ?_
  refine g_icmp_gt C d10_2 (by decide) (pc' := 9) (by decide) (pcN := 5) rfl (fun q => absurd q (by decide)) (fun _ => ?_)
  refine g_iloadN C d10_5 (pc' := 6) rfl rfl ?_
  refine g_goto C d10_6 (by decide) (pc' := 10) (by decide) ?_
  exact g_retI C rfl d10_10 ⟨rfl, rfl⟩ (by decide) (by decide)
def R_s_encY : Room := ({ frames := 0, cells := 0, slots := 0, locals := 0 } : Room)
set_option maxRecDepth 65536 in
set_option maxHeartbeats 40000000 in
theorem s_encY {l : Launch} {Z : State} {a0 : Array Value} (hw : ∀ d ∈ tables_1, d.before a0 Z = true) {h0 : Heap} {n0 : Nat} (p : Int32) (hp : ¬ p < 0 ∧ ¬ (255 : Int32) < p) :
    Met l Z (⟨"java/lang/StringLatin1", "canEncode", "(I)Z"⟩ : MethodName) jdk_43_method_4_code 1 (some .boolean) R_s_encY n0 h0 #[(.int p)] (fun r h => r = some (.int 1) ∧ h0 = h) := by
  refine Met.intro (plainFor_of_name (by first | (simp [plainName, overriddenIn, x]; done) | decide +kernel)) (fun m => (show entryFrame m #[(.int p)] 1 = mkF m 0 #[.val (.int p)] [] from by first | rfl | (simp [entryFrame, mkF, argsToLocals, Value.category]; done))) (fun w Y C => ?_)
  refine g_iloadN C d8_0 (pc' := 1) rfl rfl ?_
  refine g_if_lt C d8_1 (by decide) (pc' := 15) (by decide) (pcN := 4) rfl (fun q => absurd q hp.1) (fun _ => ?_)
  refine g_iloadN C d8_4 (pc' := 5) rfl rfl ?_
  refine g_sipush C (z := (255 : Int32)) d8_5 (pc' := 8) rfl rfl ?_
  refine g_icmp_gt C d8_8 (by decide) (pc' := 15) (by decide) (pcN := 11) rfl (fun q => absurd q hp.2) (fun _ => ?_)
  refine g_iconst C (z := (1 : Int32)) d8_11 (pc' := 12) rfl rfl ?_
  refine g_goto C d8_12 (by decide) (pc' := 16) (by decide) ?_
  exact g_retN C (t := .boolean) rfl (by simp) d8_16 ⟨rfl, rfl⟩ (by decide) (by decide)
def R_s_encN : Room := ({ frames := 0, cells := 0, slots := 0, locals := 0 } : Room)
set_option maxRecDepth 65536 in
set_option maxHeartbeats 40000000 in
theorem s_encN {l : Launch} {Z : State} {a0 : Array Value} (hw : ∀ d ∈ tables_1, d.before a0 Z = true) {h0 : Heap} {n0 : Nat} (p : Int32) (hp : p < 0 ∨ (255 : Int32) < p) :
    Met l Z (⟨"java/lang/StringLatin1", "canEncode", "(I)Z"⟩ : MethodName) jdk_43_method_4_code 1 (some .boolean) R_s_encN n0 h0 #[(.int p)] (fun r h => r = some (.int 0) ∧ h0 = h) := by
  refine Met.intro (plainFor_of_name (by first | (simp [plainName, overriddenIn, x]; done) | decide +kernel)) (fun m => (show entryFrame m #[(.int p)] 1 = mkF m 0 #[.val (.int p)] [] from by first | rfl | (simp [entryFrame, mkF, argsToLocals, Value.category]; done))) (fun w Y C => ?_)
  refine g_iloadN C d8_0 (pc' := 1) rfl rfl ?_
  refine g_if_lt C d8_1 (by decide) (pc' := 15) (by decide) (pcN := 4) rfl (fun q1 => ?_) (fun q1 => ?_)
  · refine g_iconst C (z := (0 : Int32)) d8_15 (pc' := 16) rfl rfl ?_
    exact g_retN C (t := .boolean) rfl (by simp) d8_16 ⟨rfl, rfl⟩ (by decide) (by decide)
  · refine g_iloadN C d8_4 (pc' := 5) rfl rfl ?_
    refine g_sipush C (z := (255 : Int32)) d8_5 (pc' := 8) rfl rfl ?_
    refine g_icmp_gt C d8_8 (by decide) (pc' := 15) (by decide) (pcN := 11) rfl (fun _ => ?_) (fun q => absurd hp (by intro hp; rcases hp with hp | hp; exact q1 hp; exact q hp))
    refine g_iconst C (z := (0 : Int32)) d8_15 (pc' := 16) rfl rfl ?_
    exact g_retN C (t := .boolean) rfl (by simp) d8_16 ⟨rfl, rfl⟩ (by decide) (by decide)
def R_s_latin : Room := ({ frames := 0, cells := 0, slots := 0, locals := 0 } : Room)
set_option maxRecDepth 65536 in
set_option maxHeartbeats 40000000 in
theorem s_latin {l : Launch} {Z : State} {a0 : Array Value} (hw : ∀ d ∈ tables_1, d.before a0 Z = true) {h0 : Heap} {n0 : Nat} (a t : Addr) (G1 : Int32) (Fc : Fld Z h0 a "java/lang/String" "coder" "B" (.int 0)) (Fv : Fld Z h0 a "java/lang/String" "value" "[B" (.ref t)) (A : Arw Z h0 t .byte (15 : Int32) (fun i => own_vs.getD i (.int 0))) (S : Sta Z h0 "java/lang/String" "COMPACT_STRINGS" "Z" (.int G1)) (P5 : ¬ G1 = 0) (E : Exa Z h0 a "java/lang/String") :
    Met l Z (⟨"java/lang/String", "isLatin1", "()Z"⟩ : MethodName) jdk_42_method_154_code 1 (some .boolean) R_s_latin n0 h0 #[(.ref a)] (fun r h => r = some (.int 1) ∧ h0 = h) := by
  refine Met.intro (plainFor_of_name (by first | (simp [plainName, overriddenIn, x]; done) | decide +kernel)) (fun m => (show entryFrame m #[(.ref a)] 1 = mkF m 0 #[.val (.ref a)] [] from by first | rfl | (simp [entryFrame, mkF, argsToLocals, Value.category]; done))) (fun w Y C => ?_)
  refine g_getS (host := "") C (Or.inl (hw _ (List.mem_of_getElem? (i := 27) rfl))) Via.refl S d4_0 (pc' := 3) rfl ?_
  refine g_if_eq C d4_3 (by decide) (pc' := 17) (by decide) (pcN := 6) rfl (fun q => absurd q P5) (fun _ => ?_)
  refine g_aloadN C d4_6 (pc' := 7) rfl rfl rfl ?_
  refine g_getF (host := "") C (Or.inl (hw _ (List.mem_of_getElem? (i := 28) rfl))) Via.refl Fc d4_7 (pc' := 10) rfl ?_
  refine g_if_ne C d4_10 (by decide) (pc' := 17) (by decide) (pcN := 13) rfl (fun q => absurd rfl q) (fun _ => ?_)
  refine g_iconst C (z := (1 : Int32)) d4_13 (pc' := 14) rfl rfl ?_
  refine g_goto C d4_14 (by decide) (pc' := 18) (by decide) ?_
  exact g_retN C (t := .boolean) rfl (by simp) d4_18 ⟨rfl, rfl⟩ (by decide) (by decide)
def R_s_coder : Room := ({ frames := 0, cells := 0, slots := 0, locals := 0 } : Room)
set_option maxRecDepth 65536 in
set_option maxHeartbeats 40000000 in
theorem s_coder {l : Launch} {Z : State} {a0 : Array Value} (hw : ∀ d ∈ tables_1, d.before a0 Z = true) {h0 : Heap} {n0 : Nat} (a t : Addr) (G1 : Int32) (Fc : Fld Z h0 a "java/lang/String" "coder" "B" (.int 0)) (Fv : Fld Z h0 a "java/lang/String" "value" "[B" (.ref t)) (A : Arw Z h0 t .byte (15 : Int32) (fun i => own_vs.getD i (.int 0))) (S : Sta Z h0 "java/lang/String" "COMPACT_STRINGS" "Z" (.int G1)) (P5 : ¬ G1 = 0) (E : Exa Z h0 a "java/lang/String") :
    Met l Z (⟨"java/lang/String", "coder", "()B"⟩ : MethodName) jdk_42_method_152_code 1 (some .byte) R_s_coder n0 h0 #[(.ref a)] (fun r h => r = some (.int 0) ∧ h0 = h) := by
  refine Met.intro (plainFor_of_name (by first | (simp [plainName, overriddenIn, x]; done) | decide +kernel)) (fun m => (show entryFrame m #[(.ref a)] 1 = mkF m 0 #[.val (.ref a)] [] from by first | rfl | (simp [entryFrame, mkF, argsToLocals, Value.category]; done))) (fun w Y C => ?_)
  refine g_getS (host := "") C (Or.inl (hw _ (List.mem_of_getElem? (i := 27) rfl))) Via.refl S d6_0 (pc' := 3) rfl ?_
  refine g_if_eq C d6_3 (by decide) (pc' := 13) (by decide) (pcN := 6) rfl (fun q => absurd q P5) (fun _ => ?_)
  refine g_aloadN C d6_6 (pc' := 7) rfl rfl rfl ?_
  refine g_getF (host := "") C (Or.inl (hw _ (List.mem_of_getElem? (i := 28) rfl))) Via.refl Fc d6_7 (pc' := 10) rfl ?_
  refine g_goto C d6_10 (by decide) (pc' := 14) (by decide) ?_
  exact g_retN C (t := .byte) rfl (by simp) d6_14 ⟨rfl, rfl⟩ (by decide) (by decide)
def R_s_len : Room := ({ frames := 1, cells := 0, slots := 0, locals := 13 } : Room)
set_option maxRecDepth 65536 in
set_option maxHeartbeats 40000000 in
theorem s_len {l : Launch} {Z : State} {a0 : Array Value} (hw : ∀ d ∈ tables_1, d.before a0 Z = true) {h0 : Heap} {n0 : Nat} (a t : Addr) (G1 : Int32) (Fc : Fld Z h0 a "java/lang/String" "coder" "B" (.int 0)) (Fv : Fld Z h0 a "java/lang/String" "value" "[B" (.ref t)) (A : Arw Z h0 t .byte (15 : Int32) (fun i => own_vs.getD i (.int 0))) (S : Sta Z h0 "java/lang/String" "COMPACT_STRINGS" "Z" (.int G1)) (P5 : ¬ G1 = 0) (E : Exa Z h0 a "java/lang/String") :
    Met l Z (⟨"java/lang/String", "length", "()I"⟩ : MethodName) jdk_42_method_54_code 1 (some .int) R_s_len n0 h0 #[(.ref a)] (fun r h => r = some (.int 15) ∧ h0 = h) := by
  refine Met.intro (plainFor_of_name (by first | (simp [plainName, overriddenIn, x]; done) | decide +kernel)) (fun m => (show entryFrame m #[(.ref a)] 1 = mkF m 0 #[.val (.ref a)] [] from by first | rfl | (simp [entryFrame, mkF, argsToLocals, Value.category]; done))) (fun w Y C => ?_)
  refine g_aloadN C d5_0 (pc' := 1) rfl rfl rfl ?_
  refine g_getF (host := "") C (Or.inl (hw _ (List.mem_of_getElem? (i := 29) rfl))) Via.refl Fv d5_1 (pc' := 4) rfl ?_
  refine g_lenW C A d5_4 (pc' := 5) rfl ?_
  refine g_aloadN C d5_5 (pc' := 6) rfl rfl rfl ?_
  refine g_virtual (rm := R_s_coder) (a := a) C (y := (⟨"java/lang/String", "coder", "()B"⟩ : MethodName)) (y' := (⟨"java/lang/String", "coder", "()B"⟩ : MethodName)) (hw _ (List.mem_of_getElem? (i := 35) rfl)) (hw _ (List.mem_of_getElem? (i := 36) rfl)) (g_nf C (hw _ (List.mem_of_getElem? (i := 38) rfl))) (hw _ (List.mem_of_getElem? (i := 38) rfl)) (hw _ (List.mem_of_getElem? (i := 37) rfl)) (by decide) E d5_6 (pc' := 9) rfl (argsL := []) (rest := [(.int (15 : Int32))]) (lenOf pd_0 rfl) rfl (W := 1) (Nat.le_of_eq rfl) rfl (fun hn => Met.back (rm := R_s_coder) (s_coder hw a t G1 Fc Fv A S P5 E) hn C.hZ (hw _ (List.mem_of_getElem? (i := 39) rfl)) (hw _ (List.mem_of_getElem? (i := 5) rfl)) (by decide) (by decide)) (k' := 0) (n' := 0) rfl rfl (by decide) (by decide) ?_
  rintro _ _ ⟨rfl, rfl⟩
  show Go w l _ n0 _ h0 0 0 9 #[.val (.ref a)] [(.int (0 : Int32)), (.int (15 : Int32))]
  refine g_ishr C d5_9 (pc' := 10) rfl ?_
  exact g_retI C rfl d5_10 ⟨by decide, rfl⟩ (by decide) (by decide)
def R_s_ioc : Room := ({ frames := 0, cells := 0, slots := 0, locals := 0 } : Room)
set_option maxRecDepth 65536 in
set_option maxHeartbeats 40000000 in
theorem s_ioc {l : Launch} {Z : State} {a0 : Array Value} (hw : ∀ d ∈ tables_1, d.before a0 Z = true) {h0 : Heap} {n0 : Nat} (t : Addr) (p : Int32) (A : Arw Z h0 t .byte (15 : Int32) (fun i => own_vs.getD i (.int 0))) (hp : ¬ p < 0 ∧ ¬ (255 : Int32) < p) :
    Met l Z (⟨"java/lang/StringLatin1", "indexOfChar", "([BIII)I"⟩ : MethodName) jdk_43_method_23_code 6 (some .int) R_s_ioc n0 h0 #[(.ref t), (.int p), (.int (0 : Int32)), (.int (15 : Int32))] (fun r h => h0 = h ∧ ∃ i : Int32, r = some (.int i) ∧ (¬ i < 0 ∧ own_tokS p ∨ i < 0 ∧ ¬ own_tokS p)) := by
  refine Met.intro (plainFor_of_name (by first | (simp [plainName, overriddenIn, x]; done) | decide +kernel)) (fun m => (show entryFrame m #[(.ref t), (.int p), (.int (0 : Int32)), (.int (15 : Int32))] 6 = mkF m 0 #[.val (.ref t), .val (.int p), .val (.int (0 : Int32)), .val (.int (15 : Int32)), .unset, .unset] [] from by first | rfl | (simp [entryFrame, mkF, argsToLocals, Value.category]; done))) (fun w Y C => ?_)
  have hb := c_i2b p
  have hp1 : ¬ p.toInt < 0 := fun a => hp.1 (Int32.lt_iff_toInt_lt.mpr a)
  have hp2 : ¬ 255 < p.toInt := fun a => hp.2 (Int32.lt_iff_toInt_lt.mpr a)
  refine g_iloadN C d11_0 (pc' := 1) rfl rfl ?_
  refine g_i2b C d11_1 (pc' := 2) rfl ?_
  refine g_istore C d11_2 (pc' := 4) rfl (Ls' := #[.val (.ref t), .val (.int p), .val (.int (0 : Int32)), .val (.int (15 : Int32)), .val (.int (p.toInt8.toInt32)), .unset]) rfl ?_
  refine g_iloadN C d11_4 (pc' := 5) rfl rfl ?_
  refine g_istore C d11_5 (pc' := 7) rfl (Ls' := #[.val (.ref t), .val (.int p), .val (.int (0 : Int32)), .val (.int (15 : Int32)), .val (.int (p.toInt8.toInt32)), .val (.int (0 : Int32))]) rfl ?_
  refine g_iload C d11_7 (pc' := 9) rfl rfl ?_
  refine g_iloadN C d11_9 (pc' := 10) rfl rfl ?_
  refine g_icmp_ge C d11_10 (by decide) (pc' := 31) (by decide) (pcN := 13) rfl (fun q => absurd q (by decide)) (fun _ => ?_)
  refine g_aloadN C d11_13 (pc' := 14) rfl rfl rfl ?_
  refine g_iload C d11_14 (pc' := 16) rfl rfl ?_
  refine g_baloadW C (v := (.int (33 : Int32))) A (by decide) (by decide) rfl d11_16 (pc' := 17) rfl ?_
  refine g_iload C d11_17 (pc' := 19) rfl rfl ?_
  refine g_icmp_ne C d11_19 (by decide) (pc' := 25) (by decide) (pcN := 22) rfl (fun q19_0 => ?_) (fun q19_0 => ?_)
  · have z19_0 : ¬ 33 = (p.toInt8.toInt32).toInt := fun a => q19_0 (Int32.toInt_inj.mp a)
    refine g_iinc C d11_25 (pc' := 28) rfl rfl (z := (1 : Int32)) rfl (Ls' := #[.val (.ref t), .val (.int p), .val (.int (0 : Int32)), .val (.int (15 : Int32)), .val (.int (p.toInt8.toInt32)), .val (.int (1 : Int32))]) rfl ?_
    refine g_goto C d11_28 (by decide) (pc' := 7) (by decide) ?_
    refine g_iload C d11_7 (pc' := 9) rfl rfl ?_
    refine g_iloadN C d11_9 (pc' := 10) rfl rfl ?_
    refine g_icmp_ge C d11_10 (by decide) (pc' := 31) (by decide) (pcN := 13) rfl (fun q => absurd q (by decide)) (fun _ => ?_)
    refine g_aloadN C d11_13 (pc' := 14) rfl rfl rfl ?_
    refine g_iload C d11_14 (pc' := 16) rfl rfl ?_
    refine g_baloadW C (v := (.int (35 : Int32))) A (by decide) (by decide) rfl d11_16 (pc' := 17) rfl ?_
    refine g_iload C d11_17 (pc' := 19) rfl rfl ?_
    refine g_icmp_ne C d11_19 (by decide) (pc' := 25) (by decide) (pcN := 22) rfl (fun q19_1 => ?_) (fun q19_1 => ?_)
    · have z19_1 : ¬ 35 = (p.toInt8.toInt32).toInt := fun a => q19_1 (Int32.toInt_inj.mp a)
      refine g_iinc C d11_25 (pc' := 28) rfl rfl (z := (2 : Int32)) rfl (Ls' := #[.val (.ref t), .val (.int p), .val (.int (0 : Int32)), .val (.int (15 : Int32)), .val (.int (p.toInt8.toInt32)), .val (.int (2 : Int32))]) rfl ?_
      refine g_goto C d11_28 (by decide) (pc' := 7) (by decide) ?_
      refine g_iload C d11_7 (pc' := 9) rfl rfl ?_
      refine g_iloadN C d11_9 (pc' := 10) rfl rfl ?_
      refine g_icmp_ge C d11_10 (by decide) (pc' := 31) (by decide) (pcN := 13) rfl (fun q => absurd q (by decide)) (fun _ => ?_)
      refine g_aloadN C d11_13 (pc' := 14) rfl rfl rfl ?_
      refine g_iload C d11_14 (pc' := 16) rfl rfl ?_
      refine g_baloadW C (v := (.int (36 : Int32))) A (by decide) (by decide) rfl d11_16 (pc' := 17) rfl ?_
      refine g_iload C d11_17 (pc' := 19) rfl rfl ?_
      refine g_icmp_ne C d11_19 (by decide) (pc' := 25) (by decide) (pcN := 22) rfl (fun q19_2 => ?_) (fun q19_2 => ?_)
      · have z19_2 : ¬ 36 = (p.toInt8.toInt32).toInt := fun a => q19_2 (Int32.toInt_inj.mp a)
        refine g_iinc C d11_25 (pc' := 28) rfl rfl (z := (3 : Int32)) rfl (Ls' := #[.val (.ref t), .val (.int p), .val (.int (0 : Int32)), .val (.int (15 : Int32)), .val (.int (p.toInt8.toInt32)), .val (.int (3 : Int32))]) rfl ?_
        refine g_goto C d11_28 (by decide) (pc' := 7) (by decide) ?_
        refine g_iload C d11_7 (pc' := 9) rfl rfl ?_
        refine g_iloadN C d11_9 (pc' := 10) rfl rfl ?_
        refine g_icmp_ge C d11_10 (by decide) (pc' := 31) (by decide) (pcN := 13) rfl (fun q => absurd q (by decide)) (fun _ => ?_)
        refine g_aloadN C d11_13 (pc' := 14) rfl rfl rfl ?_
        refine g_iload C d11_14 (pc' := 16) rfl rfl ?_
        refine g_baloadW C (v := (.int (37 : Int32))) A (by decide) (by decide) rfl d11_16 (pc' := 17) rfl ?_
        refine g_iload C d11_17 (pc' := 19) rfl rfl ?_
        refine g_icmp_ne C d11_19 (by decide) (pc' := 25) (by decide) (pcN := 22) rfl (fun q19_3 => ?_) (fun q19_3 => ?_)
        · have z19_3 : ¬ 37 = (p.toInt8.toInt32).toInt := fun a => q19_3 (Int32.toInt_inj.mp a)
          refine g_iinc C d11_25 (pc' := 28) rfl rfl (z := (4 : Int32)) rfl (Ls' := #[.val (.ref t), .val (.int p), .val (.int (0 : Int32)), .val (.int (15 : Int32)), .val (.int (p.toInt8.toInt32)), .val (.int (4 : Int32))]) rfl ?_
          refine g_goto C d11_28 (by decide) (pc' := 7) (by decide) ?_
          refine g_iload C d11_7 (pc' := 9) rfl rfl ?_
          refine g_iloadN C d11_9 (pc' := 10) rfl rfl ?_
          refine g_icmp_ge C d11_10 (by decide) (pc' := 31) (by decide) (pcN := 13) rfl (fun q => absurd q (by decide)) (fun _ => ?_)
          refine g_aloadN C d11_13 (pc' := 14) rfl rfl rfl ?_
          refine g_iload C d11_14 (pc' := 16) rfl rfl ?_
          refine g_baloadW C (v := (.int (38 : Int32))) A (by decide) (by decide) rfl d11_16 (pc' := 17) rfl ?_
          refine g_iload C d11_17 (pc' := 19) rfl rfl ?_
          refine g_icmp_ne C d11_19 (by decide) (pc' := 25) (by decide) (pcN := 22) rfl (fun q19_4 => ?_) (fun q19_4 => ?_)
          · have z19_4 : ¬ 38 = (p.toInt8.toInt32).toInt := fun a => q19_4 (Int32.toInt_inj.mp a)
            refine g_iinc C d11_25 (pc' := 28) rfl rfl (z := (5 : Int32)) rfl (Ls' := #[.val (.ref t), .val (.int p), .val (.int (0 : Int32)), .val (.int (15 : Int32)), .val (.int (p.toInt8.toInt32)), .val (.int (5 : Int32))]) rfl ?_
            refine g_goto C d11_28 (by decide) (pc' := 7) (by decide) ?_
            refine g_iload C d11_7 (pc' := 9) rfl rfl ?_
            refine g_iloadN C d11_9 (pc' := 10) rfl rfl ?_
            refine g_icmp_ge C d11_10 (by decide) (pc' := 31) (by decide) (pcN := 13) rfl (fun q => absurd q (by decide)) (fun _ => ?_)
            refine g_aloadN C d11_13 (pc' := 14) rfl rfl rfl ?_
            refine g_iload C d11_14 (pc' := 16) rfl rfl ?_
            refine g_baloadW C (v := (.int (39 : Int32))) A (by decide) (by decide) rfl d11_16 (pc' := 17) rfl ?_
            refine g_iload C d11_17 (pc' := 19) rfl rfl ?_
            refine g_icmp_ne C d11_19 (by decide) (pc' := 25) (by decide) (pcN := 22) rfl (fun q19_5 => ?_) (fun q19_5 => ?_)
            · have z19_5 : ¬ 39 = (p.toInt8.toInt32).toInt := fun a => q19_5 (Int32.toInt_inj.mp a)
              refine g_iinc C d11_25 (pc' := 28) rfl rfl (z := (6 : Int32)) rfl (Ls' := #[.val (.ref t), .val (.int p), .val (.int (0 : Int32)), .val (.int (15 : Int32)), .val (.int (p.toInt8.toInt32)), .val (.int (6 : Int32))]) rfl ?_
              refine g_goto C d11_28 (by decide) (pc' := 7) (by decide) ?_
              refine g_iload C d11_7 (pc' := 9) rfl rfl ?_
              refine g_iloadN C d11_9 (pc' := 10) rfl rfl ?_
              refine g_icmp_ge C d11_10 (by decide) (pc' := 31) (by decide) (pcN := 13) rfl (fun q => absurd q (by decide)) (fun _ => ?_)
              refine g_aloadN C d11_13 (pc' := 14) rfl rfl rfl ?_
              refine g_iload C d11_14 (pc' := 16) rfl rfl ?_
              refine g_baloadW C (v := (.int (42 : Int32))) A (by decide) (by decide) rfl d11_16 (pc' := 17) rfl ?_
              refine g_iload C d11_17 (pc' := 19) rfl rfl ?_
              refine g_icmp_ne C d11_19 (by decide) (pc' := 25) (by decide) (pcN := 22) rfl (fun q19_6 => ?_) (fun q19_6 => ?_)
              · have z19_6 : ¬ 42 = (p.toInt8.toInt32).toInt := fun a => q19_6 (Int32.toInt_inj.mp a)
                refine g_iinc C d11_25 (pc' := 28) rfl rfl (z := (7 : Int32)) rfl (Ls' := #[.val (.ref t), .val (.int p), .val (.int (0 : Int32)), .val (.int (15 : Int32)), .val (.int (p.toInt8.toInt32)), .val (.int (7 : Int32))]) rfl ?_
                refine g_goto C d11_28 (by decide) (pc' := 7) (by decide) ?_
                refine g_iload C d11_7 (pc' := 9) rfl rfl ?_
                refine g_iloadN C d11_9 (pc' := 10) rfl rfl ?_
                refine g_icmp_ge C d11_10 (by decide) (pc' := 31) (by decide) (pcN := 13) rfl (fun q => absurd q (by decide)) (fun _ => ?_)
                refine g_aloadN C d11_13 (pc' := 14) rfl rfl rfl ?_
                refine g_iload C d11_14 (pc' := 16) rfl rfl ?_
                refine g_baloadW C (v := (.int (43 : Int32))) A (by decide) (by decide) rfl d11_16 (pc' := 17) rfl ?_
                refine g_iload C d11_17 (pc' := 19) rfl rfl ?_
                refine g_icmp_ne C d11_19 (by decide) (pc' := 25) (by decide) (pcN := 22) rfl (fun q19_7 => ?_) (fun q19_7 => ?_)
                · have z19_7 : ¬ 43 = (p.toInt8.toInt32).toInt := fun a => q19_7 (Int32.toInt_inj.mp a)
                  refine g_iinc C d11_25 (pc' := 28) rfl rfl (z := (8 : Int32)) rfl (Ls' := #[.val (.ref t), .val (.int p), .val (.int (0 : Int32)), .val (.int (15 : Int32)), .val (.int (p.toInt8.toInt32)), .val (.int (8 : Int32))]) rfl ?_
                  refine g_goto C d11_28 (by decide) (pc' := 7) (by decide) ?_
                  refine g_iload C d11_7 (pc' := 9) rfl rfl ?_
                  refine g_iloadN C d11_9 (pc' := 10) rfl rfl ?_
                  refine g_icmp_ge C d11_10 (by decide) (pc' := 31) (by decide) (pcN := 13) rfl (fun q => absurd q (by decide)) (fun _ => ?_)
                  refine g_aloadN C d11_13 (pc' := 14) rfl rfl rfl ?_
                  refine g_iload C d11_14 (pc' := 16) rfl rfl ?_
                  refine g_baloadW C (v := (.int (45 : Int32))) A (by decide) (by decide) rfl d11_16 (pc' := 17) rfl ?_
                  refine g_iload C d11_17 (pc' := 19) rfl rfl ?_
                  refine g_icmp_ne C d11_19 (by decide) (pc' := 25) (by decide) (pcN := 22) rfl (fun q19_8 => ?_) (fun q19_8 => ?_)
                  · have z19_8 : ¬ 45 = (p.toInt8.toInt32).toInt := fun a => q19_8 (Int32.toInt_inj.mp a)
                    refine g_iinc C d11_25 (pc' := 28) rfl rfl (z := (9 : Int32)) rfl (Ls' := #[.val (.ref t), .val (.int p), .val (.int (0 : Int32)), .val (.int (15 : Int32)), .val (.int (p.toInt8.toInt32)), .val (.int (9 : Int32))]) rfl ?_
                    refine g_goto C d11_28 (by decide) (pc' := 7) (by decide) ?_
                    refine g_iload C d11_7 (pc' := 9) rfl rfl ?_
                    refine g_iloadN C d11_9 (pc' := 10) rfl rfl ?_
                    refine g_icmp_ge C d11_10 (by decide) (pc' := 31) (by decide) (pcN := 13) rfl (fun q => absurd q (by decide)) (fun _ => ?_)
                    refine g_aloadN C d11_13 (pc' := 14) rfl rfl rfl ?_
                    refine g_iload C d11_14 (pc' := 16) rfl rfl ?_
                    refine g_baloadW C (v := (.int (46 : Int32))) A (by decide) (by decide) rfl d11_16 (pc' := 17) rfl ?_
                    refine g_iload C d11_17 (pc' := 19) rfl rfl ?_
                    refine g_icmp_ne C d11_19 (by decide) (pc' := 25) (by decide) (pcN := 22) rfl (fun q19_9 => ?_) (fun q19_9 => ?_)
                    · have z19_9 : ¬ 46 = (p.toInt8.toInt32).toInt := fun a => q19_9 (Int32.toInt_inj.mp a)
                      refine g_iinc C d11_25 (pc' := 28) rfl rfl (z := (10 : Int32)) rfl (Ls' := #[.val (.ref t), .val (.int p), .val (.int (0 : Int32)), .val (.int (15 : Int32)), .val (.int (p.toInt8.toInt32)), .val (.int (10 : Int32))]) rfl ?_
                      refine g_goto C d11_28 (by decide) (pc' := 7) (by decide) ?_
                      refine g_iload C d11_7 (pc' := 9) rfl rfl ?_
                      refine g_iloadN C d11_9 (pc' := 10) rfl rfl ?_
                      refine g_icmp_ge C d11_10 (by decide) (pc' := 31) (by decide) (pcN := 13) rfl (fun q => absurd q (by decide)) (fun _ => ?_)
                      refine g_aloadN C d11_13 (pc' := 14) rfl rfl rfl ?_
                      refine g_iload C d11_14 (pc' := 16) rfl rfl ?_
                      refine g_baloadW C (v := (.int (94 : Int32))) A (by decide) (by decide) rfl d11_16 (pc' := 17) rfl ?_
                      refine g_iload C d11_17 (pc' := 19) rfl rfl ?_
                      refine g_icmp_ne C d11_19 (by decide) (pc' := 25) (by decide) (pcN := 22) rfl (fun q19_10 => ?_) (fun q19_10 => ?_)
                      · have z19_10 : ¬ 94 = (p.toInt8.toInt32).toInt := fun a => q19_10 (Int32.toInt_inj.mp a)
                        refine g_iinc C d11_25 (pc' := 28) rfl rfl (z := (11 : Int32)) rfl (Ls' := #[.val (.ref t), .val (.int p), .val (.int (0 : Int32)), .val (.int (15 : Int32)), .val (.int (p.toInt8.toInt32)), .val (.int (11 : Int32))]) rfl ?_
                        refine g_goto C d11_28 (by decide) (pc' := 7) (by decide) ?_
                        refine g_iload C d11_7 (pc' := 9) rfl rfl ?_
                        refine g_iloadN C d11_9 (pc' := 10) rfl rfl ?_
                        refine g_icmp_ge C d11_10 (by decide) (pc' := 31) (by decide) (pcN := 13) rfl (fun q => absurd q (by decide)) (fun _ => ?_)
                        refine g_aloadN C d11_13 (pc' := 14) rfl rfl rfl ?_
                        refine g_iload C d11_14 (pc' := 16) rfl rfl ?_
                        refine g_baloadW C (v := (.int (95 : Int32))) A (by decide) (by decide) rfl d11_16 (pc' := 17) rfl ?_
                        refine g_iload C d11_17 (pc' := 19) rfl rfl ?_
                        refine g_icmp_ne C d11_19 (by decide) (pc' := 25) (by decide) (pcN := 22) rfl (fun q19_11 => ?_) (fun q19_11 => ?_)
                        · have z19_11 : ¬ 95 = (p.toInt8.toInt32).toInt := fun a => q19_11 (Int32.toInt_inj.mp a)
                          refine g_iinc C d11_25 (pc' := 28) rfl rfl (z := (12 : Int32)) rfl (Ls' := #[.val (.ref t), .val (.int p), .val (.int (0 : Int32)), .val (.int (15 : Int32)), .val (.int (p.toInt8.toInt32)), .val (.int (12 : Int32))]) rfl ?_
                          refine g_goto C d11_28 (by decide) (pc' := 7) (by decide) ?_
                          refine g_iload C d11_7 (pc' := 9) rfl rfl ?_
                          refine g_iloadN C d11_9 (pc' := 10) rfl rfl ?_
                          refine g_icmp_ge C d11_10 (by decide) (pc' := 31) (by decide) (pcN := 13) rfl (fun q => absurd q (by decide)) (fun _ => ?_)
                          refine g_aloadN C d11_13 (pc' := 14) rfl rfl rfl ?_
                          refine g_iload C d11_14 (pc' := 16) rfl rfl ?_
                          refine g_baloadW C (v := (.int (96 : Int32))) A (by decide) (by decide) rfl d11_16 (pc' := 17) rfl ?_
                          refine g_iload C d11_17 (pc' := 19) rfl rfl ?_
                          refine g_icmp_ne C d11_19 (by decide) (pc' := 25) (by decide) (pcN := 22) rfl (fun q19_12 => ?_) (fun q19_12 => ?_)
                          · have z19_12 : ¬ 96 = (p.toInt8.toInt32).toInt := fun a => q19_12 (Int32.toInt_inj.mp a)
                            refine g_iinc C d11_25 (pc' := 28) rfl rfl (z := (13 : Int32)) rfl (Ls' := #[.val (.ref t), .val (.int p), .val (.int (0 : Int32)), .val (.int (15 : Int32)), .val (.int (p.toInt8.toInt32)), .val (.int (13 : Int32))]) rfl ?_
                            refine g_goto C d11_28 (by decide) (pc' := 7) (by decide) ?_
                            refine g_iload C d11_7 (pc' := 9) rfl rfl ?_
                            refine g_iloadN C d11_9 (pc' := 10) rfl rfl ?_
                            refine g_icmp_ge C d11_10 (by decide) (pc' := 31) (by decide) (pcN := 13) rfl (fun q => absurd q (by decide)) (fun _ => ?_)
                            refine g_aloadN C d11_13 (pc' := 14) rfl rfl rfl ?_
                            refine g_iload C d11_14 (pc' := 16) rfl rfl ?_
                            refine g_baloadW C (v := (.int (124 : Int32))) A (by decide) (by decide) rfl d11_16 (pc' := 17) rfl ?_
                            refine g_iload C d11_17 (pc' := 19) rfl rfl ?_
                            refine g_icmp_ne C d11_19 (by decide) (pc' := 25) (by decide) (pcN := 22) rfl (fun q19_13 => ?_) (fun q19_13 => ?_)
                            · have z19_13 : ¬ 124 = (p.toInt8.toInt32).toInt := fun a => q19_13 (Int32.toInt_inj.mp a)
                              refine g_iinc C d11_25 (pc' := 28) rfl rfl (z := (14 : Int32)) rfl (Ls' := #[.val (.ref t), .val (.int p), .val (.int (0 : Int32)), .val (.int (15 : Int32)), .val (.int (p.toInt8.toInt32)), .val (.int (14 : Int32))]) rfl ?_
                              refine g_goto C d11_28 (by decide) (pc' := 7) (by decide) ?_
                              refine g_iload C d11_7 (pc' := 9) rfl rfl ?_
                              refine g_iloadN C d11_9 (pc' := 10) rfl rfl ?_
                              refine g_icmp_ge C d11_10 (by decide) (pc' := 31) (by decide) (pcN := 13) rfl (fun q => absurd q (by decide)) (fun _ => ?_)
                              refine g_aloadN C d11_13 (pc' := 14) rfl rfl rfl ?_
                              refine g_iload C d11_14 (pc' := 16) rfl rfl ?_
                              refine g_baloadW C (v := (.int (126 : Int32))) A (by decide) (by decide) rfl d11_16 (pc' := 17) rfl ?_
                              refine g_iload C d11_17 (pc' := 19) rfl rfl ?_
                              refine g_icmp_ne C d11_19 (by decide) (pc' := 25) (by decide) (pcN := 22) rfl (fun q19_14 => ?_) (fun q19_14 => ?_)
                              · have z19_14 : ¬ 126 = (p.toInt8.toInt32).toInt := fun a => q19_14 (Int32.toInt_inj.mp a)
                                refine g_iinc C d11_25 (pc' := 28) rfl rfl (z := (15 : Int32)) rfl (Ls' := #[.val (.ref t), .val (.int p), .val (.int (0 : Int32)), .val (.int (15 : Int32)), .val (.int (p.toInt8.toInt32)), .val (.int (15 : Int32))]) rfl ?_
                                refine g_goto C d11_28 (by decide) (pc' := 7) (by decide) ?_
                                refine g_iload C d11_7 (pc' := 9) rfl rfl ?_
                                refine g_iloadN C d11_9 (pc' := 10) rfl rfl ?_
                                refine g_icmp_ge C d11_10 (by decide) (pc' := 31) (by decide) (pcN := 13) rfl (fun _ => ?_) (fun q => absurd q (by decide))
                                refine g_iconst C (z := (-1 : Int32)) d11_31 (pc' := 32) rfl rfl ?_
                                exact g_retI C rfl d11_32 ⟨rfl, -1, rfl, Or.inr ⟨by decide, by unfold own_tokS; omega⟩⟩ (by decide) (by decide)
                              · have z19_14 : 126 = (p.toInt8.toInt32).toInt := congrArg Int32.toInt q19_14
                                refine g_iload C d11_22 (pc' := 24) rfl rfl ?_
                                exact g_retI C rfl d11_24 ⟨rfl, (14 : Int32), rfl, Or.inl ⟨by decide, by unfold own_tokS; omega⟩⟩ (by decide) (by decide)
                            · have z19_13 : 124 = (p.toInt8.toInt32).toInt := congrArg Int32.toInt q19_13
                              refine g_iload C d11_22 (pc' := 24) rfl rfl ?_
                              exact g_retI C rfl d11_24 ⟨rfl, (13 : Int32), rfl, Or.inl ⟨by decide, by unfold own_tokS; omega⟩⟩ (by decide) (by decide)
                          · have z19_12 : 96 = (p.toInt8.toInt32).toInt := congrArg Int32.toInt q19_12
                            refine g_iload C d11_22 (pc' := 24) rfl rfl ?_
                            exact g_retI C rfl d11_24 ⟨rfl, (12 : Int32), rfl, Or.inl ⟨by decide, by unfold own_tokS; omega⟩⟩ (by decide) (by decide)
                        · have z19_11 : 95 = (p.toInt8.toInt32).toInt := congrArg Int32.toInt q19_11
                          refine g_iload C d11_22 (pc' := 24) rfl rfl ?_
                          exact g_retI C rfl d11_24 ⟨rfl, (11 : Int32), rfl, Or.inl ⟨by decide, by unfold own_tokS; omega⟩⟩ (by decide) (by decide)
                      · have z19_10 : 94 = (p.toInt8.toInt32).toInt := congrArg Int32.toInt q19_10
                        refine g_iload C d11_22 (pc' := 24) rfl rfl ?_
                        exact g_retI C rfl d11_24 ⟨rfl, (10 : Int32), rfl, Or.inl ⟨by decide, by unfold own_tokS; omega⟩⟩ (by decide) (by decide)
                    · have z19_9 : 46 = (p.toInt8.toInt32).toInt := congrArg Int32.toInt q19_9
                      refine g_iload C d11_22 (pc' := 24) rfl rfl ?_
                      exact g_retI C rfl d11_24 ⟨rfl, (9 : Int32), rfl, Or.inl ⟨by decide, by unfold own_tokS; omega⟩⟩ (by decide) (by decide)
                  · have z19_8 : 45 = (p.toInt8.toInt32).toInt := congrArg Int32.toInt q19_8
                    refine g_iload C d11_22 (pc' := 24) rfl rfl ?_
                    exact g_retI C rfl d11_24 ⟨rfl, (8 : Int32), rfl, Or.inl ⟨by decide, by unfold own_tokS; omega⟩⟩ (by decide) (by decide)
                · have z19_7 : 43 = (p.toInt8.toInt32).toInt := congrArg Int32.toInt q19_7
                  refine g_iload C d11_22 (pc' := 24) rfl rfl ?_
                  exact g_retI C rfl d11_24 ⟨rfl, (7 : Int32), rfl, Or.inl ⟨by decide, by unfold own_tokS; omega⟩⟩ (by decide) (by decide)
              · have z19_6 : 42 = (p.toInt8.toInt32).toInt := congrArg Int32.toInt q19_6
                refine g_iload C d11_22 (pc' := 24) rfl rfl ?_
                exact g_retI C rfl d11_24 ⟨rfl, (6 : Int32), rfl, Or.inl ⟨by decide, by unfold own_tokS; omega⟩⟩ (by decide) (by decide)
            · have z19_5 : 39 = (p.toInt8.toInt32).toInt := congrArg Int32.toInt q19_5
              refine g_iload C d11_22 (pc' := 24) rfl rfl ?_
              exact g_retI C rfl d11_24 ⟨rfl, (5 : Int32), rfl, Or.inl ⟨by decide, by unfold own_tokS; omega⟩⟩ (by decide) (by decide)
          · have z19_4 : 38 = (p.toInt8.toInt32).toInt := congrArg Int32.toInt q19_4
            refine g_iload C d11_22 (pc' := 24) rfl rfl ?_
            exact g_retI C rfl d11_24 ⟨rfl, (4 : Int32), rfl, Or.inl ⟨by decide, by unfold own_tokS; omega⟩⟩ (by decide) (by decide)
        · have z19_3 : 37 = (p.toInt8.toInt32).toInt := congrArg Int32.toInt q19_3
          refine g_iload C d11_22 (pc' := 24) rfl rfl ?_
          exact g_retI C rfl d11_24 ⟨rfl, (3 : Int32), rfl, Or.inl ⟨by decide, by unfold own_tokS; omega⟩⟩ (by decide) (by decide)
      · have z19_2 : 36 = (p.toInt8.toInt32).toInt := congrArg Int32.toInt q19_2
        refine g_iload C d11_22 (pc' := 24) rfl rfl ?_
        exact g_retI C rfl d11_24 ⟨rfl, (2 : Int32), rfl, Or.inl ⟨by decide, by unfold own_tokS; omega⟩⟩ (by decide) (by decide)
    · have z19_1 : 35 = (p.toInt8.toInt32).toInt := congrArg Int32.toInt q19_1
      refine g_iload C d11_22 (pc' := 24) rfl rfl ?_
      exact g_retI C rfl d11_24 ⟨rfl, (1 : Int32), rfl, Or.inl ⟨by decide, by unfold own_tokS; omega⟩⟩ (by decide) (by decide)
  · have z19_0 : 33 = (p.toInt8.toInt32).toInt := congrArg Int32.toInt q19_0
    refine g_iload C d11_22 (pc' := 24) rfl rfl ?_
    exact g_retI C rfl d11_24 ⟨rfl, (0 : Int32), rfl, Or.inl ⟨by decide, by unfold own_tokS; omega⟩⟩ (by decide) (by decide)
def R_s_ixY : Room := ({ frames := 1, cells := 0, slots := 0, locals := 17 } : Room)
set_option maxRecDepth 65536 in
set_option maxHeartbeats 40000000 in
theorem s_ixY {l : Launch} {Z : State} {a0 : Array Value} (hw : ∀ d ∈ tables_1, d.before a0 Z = true) {h0 : Heap} {n0 : Nat} (t : Addr) (p : Int32) (A : Arw Z h0 t .byte (15 : Int32) (fun i => own_vs.getD i (.int 0))) (hp : ¬ p < 0 ∧ ¬ (255 : Int32) < p) :
    Met l Z (⟨"java/lang/StringLatin1", "indexOf", "([BIII)I"⟩ : MethodName) jdk_43_method_22_code 4 (some .int) R_s_ixY n0 h0 #[(.ref t), (.int p), (.int (0 : Int32)), (.int (15 : Int32))] (fun r h => h0 = h ∧ ∃ i : Int32, r = some (.int i) ∧ (¬ i < 0 ∧ own_tokS p ∨ i < 0 ∧ ¬ own_tokS p)) := by
  refine Met.intro (plainFor_of_name (by first | (simp [plainName, overriddenIn, x]; done) | decide +kernel)) (fun m => (show entryFrame m #[(.ref t), (.int p), (.int (0 : Int32)), (.int (15 : Int32))] 4 = mkF m 0 #[.val (.ref t), .val (.int p), .val (.int (0 : Int32)), .val (.int (15 : Int32))] [] from by first | rfl | (simp [entryFrame, mkF, argsToLocals, Value.category]; done))) (fun w Y C => ?_)
  refine g_iloadN C d7_0 (pc' := 1) rfl rfl ?_
  refine g_static (rm := R_s_encY) C (y := (⟨"java/lang/StringLatin1", "canEncode", "(I)Z"⟩ : MethodName)) (hw _ (List.mem_of_getElem? (i := 44) rfl)) (hw _ (List.mem_of_getElem? (i := 45) rfl)) (hw _ (List.mem_of_getElem? (i := 42) rfl)) (hw _ (List.mem_of_getElem? (i := 46) rfl)) (by decide) d7_1 (pc' := 4) rfl (argsL := [(.int p)]) (rest := []) (lenOf pd_1 rfl) rfl (W := 0) (Nat.le_of_eq rfl) rfl (fun hn => Met.back (rm := R_s_encY) (s_encY hw p hp) hn C.hZ (hw _ (List.mem_of_getElem? (i := 46) rfl)) (hw _ (List.mem_of_getElem? (i := 42) rfl)) (by decide) (by decide)) (k' := 0) (n' := 0) rfl rfl (by decide) (by decide) ?_
  rintro _ _ ⟨rfl, rfl⟩
  show Go w l _ n0 _ h0 0 0 4 #[.val (.ref t), .val (.int p), .val (.int (0 : Int32)), .val (.int (15 : Int32))] [(.int (1 : Int32))]
  refine g_if_ne C d7_4 (by decide) (pc' := 9) (by decide) (pcN := 7) rfl (fun _ => ?_) (fun q => absurd q (by decide))
  refine g_iloadN C d7_9 (pc' := 10) rfl rfl ?_
  refine g_iconst C (z := (0 : Int32)) d7_10 (pc' := 11) rfl rfl ?_
  refine g_static (rm := R_s_max) C (y := (⟨"java/lang/Math", "max", "(II)I"⟩ : MethodName)) (hw _ (List.mem_of_getElem? (i := 47) rfl)) (hw _ (List.mem_of_getElem? (i := 48) rfl)) (hw _ (List.mem_of_getElem? (i := 49) rfl)) (hw _ (List.mem_of_getElem? (i := 50) rfl)) (by decide) d7_11 (pc' := 14) rfl (argsL := [(.int (0 : Int32)), (.int (0 : Int32))]) (rest := []) (lenOf pd_2 rfl) rfl (W := 0) (Nat.le_of_eq rfl) rfl (fun hn => Met.back (rm := R_s_max) (s_max hw) hn C.hZ (hw _ (List.mem_of_getElem? (i := 50) rfl)) (hw _ (List.mem_of_getElem? (i := 49) rfl)) (by decide) (by decide)) (k' := 0) (n' := 0) rfl rfl (by decide) (by decide) ?_
  rintro _ _ ⟨rfl, rfl⟩
  show Go w l _ n0 _ h0 0 0 14 #[.val (.ref t), .val (.int p), .val (.int (0 : Int32)), .val (.int (15 : Int32))] [(.int (0 : Int32))]
  refine g_istoreN C d7_14 (pc' := 15) rfl (Ls' := #[.val (.ref t), .val (.int p), .val (.int (0 : Int32)), .val (.int (15 : Int32))]) rfl ?_
  refine g_iloadN C d7_15 (pc' := 16) rfl rfl ?_
  refine g_aloadN C d7_16 (pc' := 17) rfl rfl rfl ?_
  refine g_lenW C A d7_17 (pc' := 18) rfl ?_
  refine g_static (rm := R_s_min) C (y := (⟨"java/lang/Math", "min", "(II)I"⟩ : MethodName)) (hw _ (List.mem_of_getElem? (i := 51) rfl)) (hw _ (List.mem_of_getElem? (i := 52) rfl)) (hw _ (List.mem_of_getElem? (i := 49) rfl)) (hw _ (List.mem_of_getElem? (i := 53) rfl)) (by decide) d7_18 (pc' := 21) rfl (argsL := [(.int (15 : Int32)), (.int (15 : Int32))]) (rest := []) (lenOf pd_2 rfl) rfl (W := 0) (Nat.le_of_eq rfl) rfl (fun hn => Met.back (rm := R_s_min) (s_min hw) hn C.hZ (hw _ (List.mem_of_getElem? (i := 53) rfl)) (hw _ (List.mem_of_getElem? (i := 49) rfl)) (by decide) (by decide)) (k' := 0) (n' := 0) rfl rfl (by decide) (by decide) ?_
  rintro _ _ ⟨rfl, rfl⟩
  show Go w l _ n0 _ h0 0 0 21 #[.val (.ref t), .val (.int p), .val (.int (0 : Int32)), .val (.int (15 : Int32))] [(.int (15 : Int32))]
  refine g_istoreN C d7_21 (pc' := 22) rfl (Ls' := #[.val (.ref t), .val (.int p), .val (.int (0 : Int32)), .val (.int (15 : Int32))]) rfl ?_
  refine g_iloadN C d7_22 (pc' := 23) rfl rfl ?_
  refine g_iloadN C d7_23 (pc' := 24) rfl rfl ?_
  refine g_icmp_lt C d7_24 (by decide) (pc' := 29) (by decide) (pcN := 27) rfl (fun _ => ?_) (fun q => absurd q (by decide))
  refine g_aloadN C d7_29 (pc' := 30) rfl rfl rfl ?_
  refine g_iloadN C d7_30 (pc' := 31) rfl rfl ?_
  refine g_iloadN C d7_31 (pc' := 32) rfl rfl ?_
  refine g_iloadN C d7_32 (pc' := 33) rfl rfl ?_
  refine g_static (rm := R_s_ioc) C (y := (⟨"java/lang/StringLatin1", "indexOfChar", "([BIII)I"⟩ : MethodName)) (hw _ (List.mem_of_getElem? (i := 54) rfl)) (hw _ (List.mem_of_getElem? (i := 55) rfl)) (hw _ (List.mem_of_getElem? (i := 42) rfl)) (hw _ (List.mem_of_getElem? (i := 56) rfl)) (by decide) d7_33 (pc' := 36) rfl (argsL := [(.ref t), (.int p), (.int (0 : Int32)), (.int (15 : Int32))]) (rest := []) (lenOf pd_3 rfl) rfl (W := 0) (Nat.le_of_eq rfl) rfl (fun hn => Met.back (rm := R_s_ioc) (s_ioc hw t p A hp) hn C.hZ (hw _ (List.mem_of_getElem? (i := 56) rfl)) (hw _ (List.mem_of_getElem? (i := 42) rfl)) (by decide) (by decide)) (k' := 0) (n' := 0) rfl rfl (by decide) (by decide) ?_
  rintro _ _ ⟨rfl, i1, rfl, hi⟩
  show Go w l _ n0 _ h0 0 0 36 #[.val (.ref t), .val (.int p), .val (.int (0 : Int32)), .val (.int (15 : Int32))] [(.int i1)]
  exact g_retI C rfl d7_36 ⟨rfl, i1, rfl, hi⟩ (by decide) (by decide)
def R_s_ixN : Room := ({ frames := 1, cells := 0, slots := 0, locals := 12 } : Room)
set_option maxRecDepth 65536 in
set_option maxHeartbeats 40000000 in
theorem s_ixN {l : Launch} {Z : State} {a0 : Array Value} (hw : ∀ d ∈ tables_1, d.before a0 Z = true) {h0 : Heap} {n0 : Nat} (t : Addr) (p : Int32) (A : Arw Z h0 t .byte (15 : Int32) (fun i => own_vs.getD i (.int 0))) (hp : p < 0 ∨ (255 : Int32) < p) :
    Met l Z (⟨"java/lang/StringLatin1", "indexOf", "([BIII)I"⟩ : MethodName) jdk_43_method_22_code 4 (some .int) R_s_ixN n0 h0 #[(.ref t), (.int p), (.int (0 : Int32)), (.int (15 : Int32))] (fun r h => h0 = h ∧ ∃ i : Int32, r = some (.int i) ∧ (¬ i < 0 ∧ own_tokS p ∨ i < 0 ∧ ¬ own_tokS p)) := by
  refine Met.intro (plainFor_of_name (by first | (simp [plainName, overriddenIn, x]; done) | decide +kernel)) (fun m => (show entryFrame m #[(.ref t), (.int p), (.int (0 : Int32)), (.int (15 : Int32))] 4 = mkF m 0 #[.val (.ref t), .val (.int p), .val (.int (0 : Int32)), .val (.int (15 : Int32))] [] from by first | rfl | (simp [entryFrame, mkF, argsToLocals, Value.category]; done))) (fun w Y C => ?_)
  have hq : p.toInt < 0 ∨ 255 < p.toInt := hp.imp Int32.lt_iff_toInt_lt.mp Int32.lt_iff_toInt_lt.mp
  refine g_iloadN C d7_0 (pc' := 1) rfl rfl ?_
  refine g_static (rm := R_s_encN) C (y := (⟨"java/lang/StringLatin1", "canEncode", "(I)Z"⟩ : MethodName)) (hw _ (List.mem_of_getElem? (i := 44) rfl)) (hw _ (List.mem_of_getElem? (i := 45) rfl)) (hw _ (List.mem_of_getElem? (i := 42) rfl)) (hw _ (List.mem_of_getElem? (i := 46) rfl)) (by decide) d7_1 (pc' := 4) rfl (argsL := [(.int p)]) (rest := []) (lenOf pd_1 rfl) rfl (W := 0) (Nat.le_of_eq rfl) rfl (fun hn => Met.back (rm := R_s_encN) (s_encN hw p hp) hn C.hZ (hw _ (List.mem_of_getElem? (i := 46) rfl)) (hw _ (List.mem_of_getElem? (i := 42) rfl)) (by decide) (by decide)) (k' := 0) (n' := 0) rfl rfl (by decide) (by decide) ?_
  rintro _ _ ⟨rfl, rfl⟩
  show Go w l _ n0 _ h0 0 0 4 #[.val (.ref t), .val (.int p), .val (.int (0 : Int32)), .val (.int (15 : Int32))] [(.int (0 : Int32))]
  refine g_if_ne C d7_4 (by decide) (pc' := 9) (by decide) (pcN := 7) rfl (fun q => absurd rfl q) (fun _ => ?_)
  refine g_iconst C (z := (-1 : Int32)) d7_7 (pc' := 8) rfl rfl ?_
  exact g_retI C rfl d7_8 ⟨rfl, -1, rfl, Or.inr ⟨by decide, by unfold own_tokS; omega⟩⟩ (by decide) (by decide)
def R_s_sxY : Room := ({ frames := 2, cells := 0, slots := 0, locals := 32 } : Room)
set_option maxRecDepth 65536 in
set_option maxHeartbeats 40000000 in
theorem s_sxY {l : Launch} {Z : State} {a0 : Array Value} (hw : ∀ d ∈ tables_1, d.before a0 Z = true) {h0 : Heap} {n0 : Nat} (a t : Addr) (G1 : Int32) (p : Int32) (Fc : Fld Z h0 a "java/lang/String" "coder" "B" (.int 0)) (Fv : Fld Z h0 a "java/lang/String" "value" "[B" (.ref t)) (A : Arw Z h0 t .byte (15 : Int32) (fun i => own_vs.getD i (.int 0))) (S : Sta Z h0 "java/lang/String" "COMPACT_STRINGS" "Z" (.int G1)) (P5 : ¬ G1 = 0) (E : Exa Z h0 a "java/lang/String") (hp : ¬ p < 0 ∧ ¬ (255 : Int32) < p) :
    Met l Z (⟨"java/lang/String", "indexOf", "(II)I"⟩ : MethodName) jdk_42_method_80_code 3 (some .int) R_s_sxY n0 h0 #[(.ref a), (.int p), (.int (0 : Int32))] (fun r h => h0 = h ∧ ∃ i : Int32, r = some (.int i) ∧ (¬ i < 0 ∧ own_tokS p ∨ i < 0 ∧ ¬ own_tokS p)) := by
  refine Met.intro (plainFor_of_name (by first | (simp [plainName, overriddenIn, x]; done) | decide +kernel)) (fun m => (show entryFrame m #[(.ref a), (.int p), (.int (0 : Int32))] 3 = mkF m 0 #[.val (.ref a), .val (.int p), .val (.int (0 : Int32))] [] from by first | rfl | (simp [entryFrame, mkF, argsToLocals, Value.category]; done))) (fun w Y C => ?_)
  refine g_aloadN C d3_0 (pc' := 1) rfl rfl rfl ?_
  refine g_virtual (rm := R_s_latin) (a := a) C (y := (⟨"java/lang/String", "isLatin1", "()Z"⟩ : MethodName)) (y' := (⟨"java/lang/String", "isLatin1", "()Z"⟩ : MethodName)) (hw _ (List.mem_of_getElem? (i := 22) rfl)) (hw _ (List.mem_of_getElem? (i := 23) rfl)) (g_nf C (hw _ (List.mem_of_getElem? (i := 25) rfl))) (hw _ (List.mem_of_getElem? (i := 25) rfl)) (hw _ (List.mem_of_getElem? (i := 24) rfl)) (by decide) E d3_1 (pc' := 4) rfl (argsL := []) (rest := []) (lenOf pd_4 rfl) rfl (W := 0) (Nat.le_of_eq rfl) rfl (fun hn => Met.back (rm := R_s_latin) (s_latin hw a t G1 Fc Fv A S P5 E) hn C.hZ (hw _ (List.mem_of_getElem? (i := 26) rfl)) (hw _ (List.mem_of_getElem? (i := 5) rfl)) (by decide) (by decide)) (k' := 0) (n' := 0) rfl rfl (by decide) (by decide) ?_
  rintro _ _ ⟨rfl, rfl⟩
  show Go w l _ n0 _ h0 0 0 4 #[.val (.ref a), .val (.int p), .val (.int (0 : Int32))] [(.int (1 : Int32))]
  refine g_if_eq C d3_4 (by decide) (pc' := 23) (by decide) (pcN := 7) rfl (fun q => absurd q (by decide)) (fun _ => ?_)
  refine g_aloadN C d3_7 (pc' := 8) rfl rfl rfl ?_
  refine g_getF (host := "") C (Or.inl (hw _ (List.mem_of_getElem? (i := 29) rfl))) Via.refl Fv d3_8 (pc' := 11) rfl ?_
  refine g_iloadN C d3_11 (pc' := 12) rfl rfl ?_
  refine g_iloadN C d3_12 (pc' := 13) rfl rfl ?_
  refine g_aloadN C d3_13 (pc' := 14) rfl rfl rfl ?_
  refine g_virtual (rm := R_s_len) (a := a) C (y := (⟨"java/lang/String", "length", "()I"⟩ : MethodName)) (y' := (⟨"java/lang/String", "length", "()I"⟩ : MethodName)) (hw _ (List.mem_of_getElem? (i := 30) rfl)) (hw _ (List.mem_of_getElem? (i := 31) rfl)) (g_nf C (hw _ (List.mem_of_getElem? (i := 33) rfl))) (hw _ (List.mem_of_getElem? (i := 33) rfl)) (hw _ (List.mem_of_getElem? (i := 32) rfl)) (by decide) E d3_14 (pc' := 17) rfl (argsL := []) (rest := [(.int (0 : Int32)), (.int p), (.ref t)]) (lenOf pd_5 rfl) rfl (W := 3) (Nat.le_of_eq rfl) rfl (fun hn => Met.back (rm := R_s_len) (s_len hw a t G1 Fc Fv A S P5 E) hn C.hZ (hw _ (List.mem_of_getElem? (i := 34) rfl)) (hw _ (List.mem_of_getElem? (i := 5) rfl)) (by decide) (by decide)) (k' := 0) (n' := 0) rfl rfl (by decide) (by decide) ?_
  rintro _ _ ⟨rfl, rfl⟩
  show Go w l _ n0 _ h0 0 0 17 #[.val (.ref a), .val (.int p), .val (.int (0 : Int32))] [(.int (15 : Int32)), (.int (0 : Int32)), (.int p), (.ref t)]
  refine g_static (rm := R_s_ixY) C (y := (⟨"java/lang/StringLatin1", "indexOf", "([BIII)I"⟩ : MethodName)) (hw _ (List.mem_of_getElem? (i := 40) rfl)) (hw _ (List.mem_of_getElem? (i := 41) rfl)) (hw _ (List.mem_of_getElem? (i := 42) rfl)) (hw _ (List.mem_of_getElem? (i := 43) rfl)) (by decide) d3_17 (pc' := 20) rfl (argsL := [(.ref t), (.int p), (.int (0 : Int32)), (.int (15 : Int32))]) (rest := []) (lenOf pd_3 rfl) rfl (W := 0) (Nat.le_of_eq rfl) rfl (fun hn => Met.back (rm := R_s_ixY) (s_ixY hw t p A hp) hn C.hZ (hw _ (List.mem_of_getElem? (i := 43) rfl)) (hw _ (List.mem_of_getElem? (i := 42) rfl)) (by decide) (by decide)) (k' := 0) (n' := 0) rfl rfl (by decide) (by decide) ?_
  rintro _ _ ⟨rfl, i1, rfl, hi⟩
  show Go w l _ n0 _ h0 0 0 20 #[.val (.ref a), .val (.int p), .val (.int (0 : Int32))] [(.int i1)]
  refine g_goto C d3_20 (by decide) (pc' := 36) (by decide) ?_
  exact g_retI C rfl d3_36 ⟨rfl, i1, rfl, hi⟩ (by decide) (by decide)
def R_s_s1Y : Room := ({ frames := 3, cells := 0, slots := 0, locals := 46 } : Room)
set_option maxRecDepth 65536 in
set_option maxHeartbeats 40000000 in
theorem s_s1Y {l : Launch} {Z : State} {a0 : Array Value} (hw : ∀ d ∈ tables_1, d.before a0 Z = true) {h0 : Heap} {n0 : Nat} (a t : Addr) (G1 : Int32) (p : Int32) (Fc : Fld Z h0 a "java/lang/String" "coder" "B" (.int 0)) (Fv : Fld Z h0 a "java/lang/String" "value" "[B" (.ref t)) (A : Arw Z h0 t .byte (15 : Int32) (fun i => own_vs.getD i (.int 0))) (S : Sta Z h0 "java/lang/String" "COMPACT_STRINGS" "Z" (.int G1)) (P5 : ¬ G1 = 0) (E : Exa Z h0 a "java/lang/String") (hp : ¬ p < 0 ∧ ¬ (255 : Int32) < p) :
    Met l Z (⟨"java/lang/String", "indexOf", "(I)I"⟩ : MethodName) jdk_42_method_79_code 2 (some .int) R_s_s1Y n0 h0 #[(.ref a), (.int p)] (fun r h => h0 = h ∧ ∃ i : Int32, r = some (.int i) ∧ (¬ i < 0 ∧ own_tokS p ∨ i < 0 ∧ ¬ own_tokS p)) := by
  refine Met.intro (plainFor_of_name (by first | (simp [plainName, overriddenIn, x]; done) | decide +kernel)) (fun m => (show entryFrame m #[(.ref a), (.int p)] 2 = mkF m 0 #[.val (.ref a), .val (.int p)] [] from by first | rfl | (simp [entryFrame, mkF, argsToLocals, Value.category]; done))) (fun w Y C => ?_)
  refine g_aloadN C d2_0 (pc' := 1) rfl rfl rfl ?_
  refine g_iloadN C d2_1 (pc' := 2) rfl rfl ?_
  refine g_iconst C (z := (0 : Int32)) d2_2 (pc' := 3) rfl rfl ?_
  refine g_virtual (rm := R_s_sxY) (a := a) C (y := (⟨"java/lang/String", "indexOf", "(II)I"⟩ : MethodName)) (y' := (⟨"java/lang/String", "indexOf", "(II)I"⟩ : MethodName)) (hw _ (List.mem_of_getElem? (i := 17) rfl)) (hw _ (List.mem_of_getElem? (i := 18) rfl)) (g_nf C (hw _ (List.mem_of_getElem? (i := 20) rfl))) (hw _ (List.mem_of_getElem? (i := 20) rfl)) (hw _ (List.mem_of_getElem? (i := 19) rfl)) (by decide) E d2_3 (pc' := 6) rfl (argsL := [(.int p), (.int (0 : Int32))]) (rest := []) (lenOf pd_2 rfl) rfl (W := 0) (Nat.le_of_eq rfl) rfl (fun hn => Met.back (rm := R_s_sxY) (s_sxY hw a t G1 p Fc Fv A S P5 E hp) hn C.hZ (hw _ (List.mem_of_getElem? (i := 21) rfl)) (hw _ (List.mem_of_getElem? (i := 5) rfl)) (by decide) (by decide)) (k' := 0) (n' := 0) rfl rfl (by decide) (by decide) ?_
  rintro _ _ ⟨rfl, i1, rfl, hi⟩
  show Go w l _ n0 _ h0 0 0 6 #[.val (.ref a), .val (.int p)] [(.int i1)]
  exact g_retI C rfl d2_6 ⟨rfl, i1, rfl, hi⟩ (by decide) (by decide)
def R_s_sxN : Room := ({ frames := 2, cells := 0, slots := 0, locals := 28 } : Room)
set_option maxRecDepth 65536 in
set_option maxHeartbeats 40000000 in
theorem s_sxN {l : Launch} {Z : State} {a0 : Array Value} (hw : ∀ d ∈ tables_1, d.before a0 Z = true) {h0 : Heap} {n0 : Nat} (a t : Addr) (G1 : Int32) (p : Int32) (Fc : Fld Z h0 a "java/lang/String" "coder" "B" (.int 0)) (Fv : Fld Z h0 a "java/lang/String" "value" "[B" (.ref t)) (A : Arw Z h0 t .byte (15 : Int32) (fun i => own_vs.getD i (.int 0))) (S : Sta Z h0 "java/lang/String" "COMPACT_STRINGS" "Z" (.int G1)) (P5 : ¬ G1 = 0) (E : Exa Z h0 a "java/lang/String") (hp : p < 0 ∨ (255 : Int32) < p) :
    Met l Z (⟨"java/lang/String", "indexOf", "(II)I"⟩ : MethodName) jdk_42_method_80_code 3 (some .int) R_s_sxN n0 h0 #[(.ref a), (.int p), (.int (0 : Int32))] (fun r h => h0 = h ∧ ∃ i : Int32, r = some (.int i) ∧ (¬ i < 0 ∧ own_tokS p ∨ i < 0 ∧ ¬ own_tokS p)) := by
  refine Met.intro (plainFor_of_name (by first | (simp [plainName, overriddenIn, x]; done) | decide +kernel)) (fun m => (show entryFrame m #[(.ref a), (.int p), (.int (0 : Int32))] 3 = mkF m 0 #[.val (.ref a), .val (.int p), .val (.int (0 : Int32))] [] from by first | rfl | (simp [entryFrame, mkF, argsToLocals, Value.category]; done))) (fun w Y C => ?_)
  refine g_aloadN C d3_0 (pc' := 1) rfl rfl rfl ?_
  refine g_virtual (rm := R_s_latin) (a := a) C (y := (⟨"java/lang/String", "isLatin1", "()Z"⟩ : MethodName)) (y' := (⟨"java/lang/String", "isLatin1", "()Z"⟩ : MethodName)) (hw _ (List.mem_of_getElem? (i := 22) rfl)) (hw _ (List.mem_of_getElem? (i := 23) rfl)) (g_nf C (hw _ (List.mem_of_getElem? (i := 25) rfl))) (hw _ (List.mem_of_getElem? (i := 25) rfl)) (hw _ (List.mem_of_getElem? (i := 24) rfl)) (by decide) E d3_1 (pc' := 4) rfl (argsL := []) (rest := []) (lenOf pd_4 rfl) rfl (W := 0) (Nat.le_of_eq rfl) rfl (fun hn => Met.back (rm := R_s_latin) (s_latin hw a t G1 Fc Fv A S P5 E) hn C.hZ (hw _ (List.mem_of_getElem? (i := 26) rfl)) (hw _ (List.mem_of_getElem? (i := 5) rfl)) (by decide) (by decide)) (k' := 0) (n' := 0) rfl rfl (by decide) (by decide) ?_
  rintro _ _ ⟨rfl, rfl⟩
  show Go w l _ n0 _ h0 0 0 4 #[.val (.ref a), .val (.int p), .val (.int (0 : Int32))] [(.int (1 : Int32))]
  refine g_if_eq C d3_4 (by decide) (pc' := 23) (by decide) (pcN := 7) rfl (fun q => absurd q (by decide)) (fun _ => ?_)
  refine g_aloadN C d3_7 (pc' := 8) rfl rfl rfl ?_
  refine g_getF (host := "") C (Or.inl (hw _ (List.mem_of_getElem? (i := 29) rfl))) Via.refl Fv d3_8 (pc' := 11) rfl ?_
  refine g_iloadN C d3_11 (pc' := 12) rfl rfl ?_
  refine g_iloadN C d3_12 (pc' := 13) rfl rfl ?_
  refine g_aloadN C d3_13 (pc' := 14) rfl rfl rfl ?_
  refine g_virtual (rm := R_s_len) (a := a) C (y := (⟨"java/lang/String", "length", "()I"⟩ : MethodName)) (y' := (⟨"java/lang/String", "length", "()I"⟩ : MethodName)) (hw _ (List.mem_of_getElem? (i := 30) rfl)) (hw _ (List.mem_of_getElem? (i := 31) rfl)) (g_nf C (hw _ (List.mem_of_getElem? (i := 33) rfl))) (hw _ (List.mem_of_getElem? (i := 33) rfl)) (hw _ (List.mem_of_getElem? (i := 32) rfl)) (by decide) E d3_14 (pc' := 17) rfl (argsL := []) (rest := [(.int (0 : Int32)), (.int p), (.ref t)]) (lenOf pd_5 rfl) rfl (W := 3) (Nat.le_of_eq rfl) rfl (fun hn => Met.back (rm := R_s_len) (s_len hw a t G1 Fc Fv A S P5 E) hn C.hZ (hw _ (List.mem_of_getElem? (i := 34) rfl)) (hw _ (List.mem_of_getElem? (i := 5) rfl)) (by decide) (by decide)) (k' := 0) (n' := 0) rfl rfl (by decide) (by decide) ?_
  rintro _ _ ⟨rfl, rfl⟩
  show Go w l _ n0 _ h0 0 0 17 #[.val (.ref a), .val (.int p), .val (.int (0 : Int32))] [(.int (15 : Int32)), (.int (0 : Int32)), (.int p), (.ref t)]
  refine g_static (rm := R_s_ixN) C (y := (⟨"java/lang/StringLatin1", "indexOf", "([BIII)I"⟩ : MethodName)) (hw _ (List.mem_of_getElem? (i := 40) rfl)) (hw _ (List.mem_of_getElem? (i := 41) rfl)) (hw _ (List.mem_of_getElem? (i := 42) rfl)) (hw _ (List.mem_of_getElem? (i := 43) rfl)) (by decide) d3_17 (pc' := 20) rfl (argsL := [(.ref t), (.int p), (.int (0 : Int32)), (.int (15 : Int32))]) (rest := []) (lenOf pd_3 rfl) rfl (W := 0) (Nat.le_of_eq rfl) rfl (fun hn => Met.back (rm := R_s_ixN) (s_ixN hw t p A hp) hn C.hZ (hw _ (List.mem_of_getElem? (i := 43) rfl)) (hw _ (List.mem_of_getElem? (i := 42) rfl)) (by decide) (by decide)) (k' := 0) (n' := 0) rfl rfl (by decide) (by decide) ?_
  rintro _ _ ⟨rfl, i1, rfl, hi⟩
  show Go w l _ n0 _ h0 0 0 20 #[.val (.ref a), .val (.int p), .val (.int (0 : Int32))] [(.int i1)]
  refine g_goto C d3_20 (by decide) (pc' := 36) (by decide) ?_
  exact g_retI C rfl d3_36 ⟨rfl, i1, rfl, hi⟩ (by decide) (by decide)
def R_s_s1N : Room := ({ frames := 3, cells := 0, slots := 0, locals := 42 } : Room)
set_option maxRecDepth 65536 in
set_option maxHeartbeats 40000000 in
theorem s_s1N {l : Launch} {Z : State} {a0 : Array Value} (hw : ∀ d ∈ tables_1, d.before a0 Z = true) {h0 : Heap} {n0 : Nat} (a t : Addr) (G1 : Int32) (p : Int32) (Fc : Fld Z h0 a "java/lang/String" "coder" "B" (.int 0)) (Fv : Fld Z h0 a "java/lang/String" "value" "[B" (.ref t)) (A : Arw Z h0 t .byte (15 : Int32) (fun i => own_vs.getD i (.int 0))) (S : Sta Z h0 "java/lang/String" "COMPACT_STRINGS" "Z" (.int G1)) (P5 : ¬ G1 = 0) (E : Exa Z h0 a "java/lang/String") (hp : p < 0 ∨ (255 : Int32) < p) :
    Met l Z (⟨"java/lang/String", "indexOf", "(I)I"⟩ : MethodName) jdk_42_method_79_code 2 (some .int) R_s_s1N n0 h0 #[(.ref a), (.int p)] (fun r h => h0 = h ∧ ∃ i : Int32, r = some (.int i) ∧ (¬ i < 0 ∧ own_tokS p ∨ i < 0 ∧ ¬ own_tokS p)) := by
  refine Met.intro (plainFor_of_name (by first | (simp [plainName, overriddenIn, x]; done) | decide +kernel)) (fun m => (show entryFrame m #[(.ref a), (.int p)] 2 = mkF m 0 #[.val (.ref a), .val (.int p)] [] from by first | rfl | (simp [entryFrame, mkF, argsToLocals, Value.category]; done))) (fun w Y C => ?_)
  refine g_aloadN C d2_0 (pc' := 1) rfl rfl rfl ?_
  refine g_iloadN C d2_1 (pc' := 2) rfl rfl ?_
  refine g_iconst C (z := (0 : Int32)) d2_2 (pc' := 3) rfl rfl ?_
  refine g_virtual (rm := R_s_sxN) (a := a) C (y := (⟨"java/lang/String", "indexOf", "(II)I"⟩ : MethodName)) (y' := (⟨"java/lang/String", "indexOf", "(II)I"⟩ : MethodName)) (hw _ (List.mem_of_getElem? (i := 17) rfl)) (hw _ (List.mem_of_getElem? (i := 18) rfl)) (g_nf C (hw _ (List.mem_of_getElem? (i := 20) rfl))) (hw _ (List.mem_of_getElem? (i := 20) rfl)) (hw _ (List.mem_of_getElem? (i := 19) rfl)) (by decide) E d2_3 (pc' := 6) rfl (argsL := [(.int p), (.int (0 : Int32))]) (rest := []) (lenOf pd_2 rfl) rfl (W := 0) (Nat.le_of_eq rfl) rfl (fun hn => Met.back (rm := R_s_sxN) (s_sxN hw a t G1 p Fc Fv A S P5 E hp) hn C.hZ (hw _ (List.mem_of_getElem? (i := 21) rfl)) (hw _ (List.mem_of_getElem? (i := 5) rfl)) (by decide) (by decide)) (k' := 0) (n' := 0) rfl rfl (by decide) (by decide) ?_
  rintro _ _ ⟨rfl, i1, rfl, hi⟩
  show Go w l _ n0 _ h0 0 0 6 #[.val (.ref a), .val (.int p)] [(.int i1)]
  exact g_retI C rfl d2_6 ⟨rfl, i1, rfl, hi⟩ (by decide) (by decide)
def R_s_tok : Room := ({ frames := 4, cells := 2, slots := 64, locals := 59 } : Room)
set_option maxRecDepth 65536 in
set_option maxHeartbeats 40000000 in
theorem t36Y {l : Launch} {Z : State} {a0 : Array Value} (hw : ∀ d ∈ tables_1, d.before a0 Z = true) {w : Wk} {n0 : Nat} {h0 : Heap} {Y : State → Outcome → Prop} (p G1 : Int32) (C : Cx w Z "com/example/guardbee/guardbee/util/HttpSyntax" prog_137_method_2_code 1 (some .boolean) "isTokenCharacter" R_s_tok n0 (fun r h => ∃ i : Int32, r = some (.int i) ∧ (i = 1 ∧ own_tok p ∨ i = 0 ∧ ¬ own_tok p)) Y) (CW : LvW w R_s_tok n0 (fun r h => ∃ i : Int32, r = some (.int i) ∧ (i = 1 ∧ own_tok p ∨ i = 0 ∧ ¬ own_tok p)) Y) (hH : w.s.heap = Z.heap) (hI : w.s.vm.interned = Z.vm.interned) (en : n0 = Z.heap.size) (hh : Jvm.Lit.constHeld Z "com/example/guardbee/guardbee/util/HttpSyntax" 7) (hcw : Jvm.Lit.compactW.before a0 Z = true) (O2 : Sta Z Z.heap "java/lang/String" "COMPACT_STRINGS" "Z" (.int G1)) (P5 : ¬ G1 = 0) (X : Old Z n0 h0) (e1 : p.toInt < 97 ∨ 122 < p.toInt) (e2 : p.toInt < 65 ∨ 90 < p.toInt) (e3 : p.toInt < 48 ∨ 57 < p.toInt) (hp : ¬ p < 0 ∧ ¬ (255 : Int32) < p) :
    Go w l R_s_tok n0 Y h0 0 0 36 #[.val (.int p)] [] := by
  refine g_ldcV C CW (z := (15 : Int32)) (m := 60) (by rw [hH, en]) (Nat.le_refl _) (by rw [hH]; exact ⟨Nat.le_refl _, fun _ _ q => q⟩) hI (hw _ (List.mem_of_getElem? (i := 4) rfl)) (fun d hd => hw d (own_strAtoms d hd)) hh hcw own_ht (by decide) rfl d1_36 (pc' := 38) rfl (by decide) (by decide) (k' := 2) (n' := 64) rfl rfl (by decide) (by decide) ?_
  intro w h1 a t kb C CW E1 E Fc Fv Av Lt
  have A := Arw.of_arv Av
  have S := O2.ext (X.ext E1).2
  refine g_iloadN C d1_38 (pc' := 39) rfl rfl ?_
  refine g_virtual (rm := R_s_s1Y) (a := a) C (y := (⟨"java/lang/String", "indexOf", "(I)I"⟩ : MethodName)) (y' := (⟨"java/lang/String", "indexOf", "(I)I"⟩ : MethodName)) (hw _ (List.mem_of_getElem? (i := 12) rfl)) (hw _ (List.mem_of_getElem? (i := 13) rfl)) (g_nf C (hw _ (List.mem_of_getElem? (i := 15) rfl))) (hw _ (List.mem_of_getElem? (i := 15) rfl)) (hw _ (List.mem_of_getElem? (i := 14) rfl)) (by decide) E d1_39 (pc' := 42) rfl (argsL := [(.int p)]) (rest := []) (lenOf pd_6 rfl) rfl (W := 0) (Nat.le_of_eq rfl) rfl (fun hn => Met.back (rm := R_s_s1Y) (s_s1Y hw a t G1 p Fc Fv A S P5 E hp) hn C.hZ (hw _ (List.mem_of_getElem? (i := 16) rfl)) (hw _ (List.mem_of_getElem? (i := 5) rfl)) (by decide) (by decide)) (k' := 2) (n' := 64) rfl rfl (by decide) (by decide) ?_
  rintro _ _ ⟨rfl, i1, rfl, hi⟩
  show Go w l _ n0 _ h1 2 64 42 #[.val (.int p)] [(.int i1)]
  refine g_if_lt C d1_42 (by decide) (pc' := 49) (by decide) (pcN := 45) rfl (fun q42 => ?_) (fun q42 => ?_)
  · refine g_iconst C (z := (0 : Int32)) d1_49 (pc' := 50) rfl rfl ?_
    exact g_retN C (t := .boolean) rfl (by simp) d1_50 ⟨0, rfl, Or.inr ⟨rfl, hi.elim (fun q => absurd q42 q.1) (fun q a => by unfold own_tok at a; rcases a with a | a | a | a; omega; omega; omega; exact q.2 a)⟩⟩ (by decide) (by decide)
  · refine g_iconst C (z := (1 : Int32)) d1_45 (pc' := 46) rfl rfl ?_
    refine g_goto C d1_46 (by decide) (pc' := 50) (by decide) ?_
    exact g_retN C (t := .boolean) rfl (by simp) d1_50 ⟨1, rfl, Or.inl ⟨rfl, hi.elim (fun q => Or.inr (Or.inr (Or.inr q.2))) (fun q => absurd q.1 q42)⟩⟩ (by decide) (by decide)
set_option maxRecDepth 65536 in
set_option maxHeartbeats 40000000 in
theorem t36N {l : Launch} {Z : State} {a0 : Array Value} (hw : ∀ d ∈ tables_1, d.before a0 Z = true) {w : Wk} {n0 : Nat} {h0 : Heap} {Y : State → Outcome → Prop} (p G1 : Int32) (C : Cx w Z "com/example/guardbee/guardbee/util/HttpSyntax" prog_137_method_2_code 1 (some .boolean) "isTokenCharacter" R_s_tok n0 (fun r h => ∃ i : Int32, r = some (.int i) ∧ (i = 1 ∧ own_tok p ∨ i = 0 ∧ ¬ own_tok p)) Y) (CW : LvW w R_s_tok n0 (fun r h => ∃ i : Int32, r = some (.int i) ∧ (i = 1 ∧ own_tok p ∨ i = 0 ∧ ¬ own_tok p)) Y) (hH : w.s.heap = Z.heap) (hI : w.s.vm.interned = Z.vm.interned) (en : n0 = Z.heap.size) (hh : Jvm.Lit.constHeld Z "com/example/guardbee/guardbee/util/HttpSyntax" 7) (hcw : Jvm.Lit.compactW.before a0 Z = true) (O2 : Sta Z Z.heap "java/lang/String" "COMPACT_STRINGS" "Z" (.int G1)) (P5 : ¬ G1 = 0) (X : Old Z n0 h0) (e1 : p.toInt < 97 ∨ 122 < p.toInt) (e2 : p.toInt < 65 ∨ 90 < p.toInt) (e3 : p.toInt < 48 ∨ 57 < p.toInt) (hp : p < 0 ∨ (255 : Int32) < p) :
    Go w l R_s_tok n0 Y h0 0 0 36 #[.val (.int p)] [] := by
  refine g_ldcV C CW (z := (15 : Int32)) (m := 60) (by rw [hH, en]) (Nat.le_refl _) (by rw [hH]; exact ⟨Nat.le_refl _, fun _ _ q => q⟩) hI (hw _ (List.mem_of_getElem? (i := 4) rfl)) (fun d hd => hw d (own_strAtoms d hd)) hh hcw own_ht (by decide) rfl d1_36 (pc' := 38) rfl (by decide) (by decide) (k' := 2) (n' := 64) rfl rfl (by decide) (by decide) ?_
  intro w h1 a t kb C CW E1 E Fc Fv Av Lt
  have A := Arw.of_arv Av
  have S := O2.ext (X.ext E1).2
  refine g_iloadN C d1_38 (pc' := 39) rfl rfl ?_
  refine g_virtual (rm := R_s_s1N) (a := a) C (y := (⟨"java/lang/String", "indexOf", "(I)I"⟩ : MethodName)) (y' := (⟨"java/lang/String", "indexOf", "(I)I"⟩ : MethodName)) (hw _ (List.mem_of_getElem? (i := 12) rfl)) (hw _ (List.mem_of_getElem? (i := 13) rfl)) (g_nf C (hw _ (List.mem_of_getElem? (i := 15) rfl))) (hw _ (List.mem_of_getElem? (i := 15) rfl)) (hw _ (List.mem_of_getElem? (i := 14) rfl)) (by decide) E d1_39 (pc' := 42) rfl (argsL := [(.int p)]) (rest := []) (lenOf pd_6 rfl) rfl (W := 0) (Nat.le_of_eq rfl) rfl (fun hn => Met.back (rm := R_s_s1N) (s_s1N hw a t G1 p Fc Fv A S P5 E hp) hn C.hZ (hw _ (List.mem_of_getElem? (i := 16) rfl)) (hw _ (List.mem_of_getElem? (i := 5) rfl)) (by decide) (by decide)) (k' := 2) (n' := 64) rfl rfl (by decide) (by decide) ?_
  rintro _ _ ⟨rfl, i1, rfl, hi⟩
  show Go w l _ n0 _ h1 2 64 42 #[.val (.int p)] [(.int i1)]
  refine g_if_lt C d1_42 (by decide) (pc' := 49) (by decide) (pcN := 45) rfl (fun q42 => ?_) (fun q42 => ?_)
  · refine g_iconst C (z := (0 : Int32)) d1_49 (pc' := 50) rfl rfl ?_
    exact g_retN C (t := .boolean) rfl (by simp) d1_50 ⟨0, rfl, Or.inr ⟨rfl, hi.elim (fun q => absurd q42 q.1) (fun q a => by unfold own_tok at a; rcases a with a | a | a | a; omega; omega; omega; exact q.2 a)⟩⟩ (by decide) (by decide)
  · refine g_iconst C (z := (1 : Int32)) d1_45 (pc' := 46) rfl rfl ?_
    refine g_goto C d1_46 (by decide) (pc' := 50) (by decide) ?_
    exact g_retN C (t := .boolean) rfl (by simp) d1_50 ⟨1, rfl, Or.inl ⟨rfl, hi.elim (fun q => Or.inr (Or.inr (Or.inr q.2))) (fun q => absurd q.1 q42)⟩⟩ (by decide) (by decide)
theorem own_or {a b : Prop} (h : ¬ (¬ a ∧ ¬ b)) : a ∨ b := Classical.byContradiction fun q => h ⟨fun x => q (Or.inl x), fun x => q (Or.inr x)⟩
set_option maxRecDepth 65536 in
set_option maxHeartbeats 40000000 in
theorem t24 {l : Launch} {Z : State} {a0 : Array Value} (hw : ∀ d ∈ tables_1, d.before a0 Z = true) {w : Wk} {n0 : Nat} {h0 : Heap} {Y : State → Outcome → Prop} (p G1 : Int32) (C : Cx w Z "com/example/guardbee/guardbee/util/HttpSyntax" prog_137_method_2_code 1 (some .boolean) "isTokenCharacter" R_s_tok n0 (fun r h => ∃ i : Int32, r = some (.int i) ∧ (i = 1 ∧ own_tok p ∨ i = 0 ∧ ¬ own_tok p)) Y) (CW : LvW w R_s_tok n0 (fun r h => ∃ i : Int32, r = some (.int i) ∧ (i = 1 ∧ own_tok p ∨ i = 0 ∧ ¬ own_tok p)) Y) (hH : w.s.heap = Z.heap) (hI : w.s.vm.interned = Z.vm.interned) (en : n0 = Z.heap.size) (hh : Jvm.Lit.constHeld Z "com/example/guardbee/guardbee/util/HttpSyntax" 7) (hcw : Jvm.Lit.compactW.before a0 Z = true) (O2 : Sta Z Z.heap "java/lang/String" "COMPACT_STRINGS" "Z" (.int G1)) (P5 : ¬ G1 = 0) (X : Old Z n0 h0) (e1 : p.toInt < 97 ∨ 122 < p.toInt) (e2 : p.toInt < 65 ∨ 90 < p.toInt) :
    Go w l R_s_tok n0 Y h0 0 0 24 #[.val (.int p)] [] := by
  refine g_iloadN C d1_24 (pc' := 25) rfl rfl ?_
  refine g_bipush C (z := (48 : Int32)) d1_25 (pc' := 27) rfl rfl ?_
  refine g_icmp_lt C d1_27 (by decide) (pc' := 36) (by decide) (pcN := 30) rfl (fun q27 => ?_) (fun q27 => ?_)
  · have z27 : p.toInt < 48 := Int32.lt_iff_toInt_lt.mp q27
    exact (if hp : ¬ p < 0 ∧ ¬ (255 : Int32) < p then t36Y (C := C) hw p G1 CW hH hI en hh hcw O2 P5 X e1 e2 (Or.inl z27) hp else t36N (C := C) hw p G1 CW hH hI en hh hcw O2 P5 X e1 e2 (Or.inl z27) (own_or hp))
  · have z27 : ¬ p.toInt < 48 := fun a => q27 (Int32.lt_iff_toInt_lt.mpr a)
    refine g_iloadN C d1_30 (pc' := 31) rfl rfl ?_
    refine g_bipush C (z := (57 : Int32)) d1_31 (pc' := 33) rfl rfl ?_
    refine g_icmp_le C d1_33 (by decide) (pc' := 45) (by decide) (pcN := 36) rfl (fun q33 => ?_) (fun q33 => ?_)
    · have z33 : ¬ 57 < p.toInt := fun a => q33 (Int32.lt_iff_toInt_lt.mpr a)
      refine g_iconst C (z := (1 : Int32)) d1_45 (pc' := 46) rfl rfl ?_
      refine g_goto C d1_46 (by decide) (pc' := 50) (by decide) ?_
      exact g_retN C (t := .boolean) rfl (by simp) d1_50 ⟨1, rfl, Or.inl ⟨rfl, by unfold own_tok; omega⟩⟩ (by decide) (by decide)
    · have z33 : 57 < p.toInt := Int32.lt_iff_toInt_lt.mp q33
      exact (if hp : ¬ p < 0 ∧ ¬ (255 : Int32) < p then t36Y (C := C) hw p G1 CW hH hI en hh hcw O2 P5 X e1 e2 (Or.inr z33) hp else t36N (C := C) hw p G1 CW hH hI en hh hcw O2 P5 X e1 e2 (Or.inr z33) (own_or hp))
set_option maxRecDepth 65536 in
set_option maxHeartbeats 40000000 in
theorem t12 {l : Launch} {Z : State} {a0 : Array Value} (hw : ∀ d ∈ tables_1, d.before a0 Z = true) {w : Wk} {n0 : Nat} {h0 : Heap} {Y : State → Outcome → Prop} (p G1 : Int32) (C : Cx w Z "com/example/guardbee/guardbee/util/HttpSyntax" prog_137_method_2_code 1 (some .boolean) "isTokenCharacter" R_s_tok n0 (fun r h => ∃ i : Int32, r = some (.int i) ∧ (i = 1 ∧ own_tok p ∨ i = 0 ∧ ¬ own_tok p)) Y) (CW : LvW w R_s_tok n0 (fun r h => ∃ i : Int32, r = some (.int i) ∧ (i = 1 ∧ own_tok p ∨ i = 0 ∧ ¬ own_tok p)) Y) (hH : w.s.heap = Z.heap) (hI : w.s.vm.interned = Z.vm.interned) (en : n0 = Z.heap.size) (hh : Jvm.Lit.constHeld Z "com/example/guardbee/guardbee/util/HttpSyntax" 7) (hcw : Jvm.Lit.compactW.before a0 Z = true) (O2 : Sta Z Z.heap "java/lang/String" "COMPACT_STRINGS" "Z" (.int G1)) (P5 : ¬ G1 = 0) (X : Old Z n0 h0) (e1 : p.toInt < 97 ∨ 122 < p.toInt) :
    Go w l R_s_tok n0 Y h0 0 0 12 #[.val (.int p)] [] := by
  refine g_iloadN C d1_12 (pc' := 13) rfl rfl ?_
  refine g_bipush C (z := (65 : Int32)) d1_13 (pc' := 15) rfl rfl ?_
  refine g_icmp_lt C d1_15 (by decide) (pc' := 24) (by decide) (pcN := 18) rfl (fun q15 => ?_) (fun q15 => ?_)
  · have z15 : p.toInt < 65 := Int32.lt_iff_toInt_lt.mp q15
    exact t24 (C := C) hw p G1 CW hH hI en hh hcw O2 P5 X e1 (Or.inl z15)
  · have z15 : ¬ p.toInt < 65 := fun a => q15 (Int32.lt_iff_toInt_lt.mpr a)
    refine g_iloadN C d1_18 (pc' := 19) rfl rfl ?_
    refine g_bipush C (z := (90 : Int32)) d1_19 (pc' := 21) rfl rfl ?_
    refine g_icmp_le C d1_21 (by decide) (pc' := 45) (by decide) (pcN := 24) rfl (fun q21 => ?_) (fun q21 => ?_)
    · have z21 : ¬ 90 < p.toInt := fun a => q21 (Int32.lt_iff_toInt_lt.mpr a)
      refine g_iconst C (z := (1 : Int32)) d1_45 (pc' := 46) rfl rfl ?_
      refine g_goto C d1_46 (by decide) (pc' := 50) (by decide) ?_
      exact g_retN C (t := .boolean) rfl (by simp) d1_50 ⟨1, rfl, Or.inl ⟨rfl, by unfold own_tok; omega⟩⟩ (by decide) (by decide)
    · have z21 : 90 < p.toInt := Int32.lt_iff_toInt_lt.mp q21
      exact t24 (C := C) hw p G1 CW hH hI en hh hcw O2 P5 X e1 (Or.inr z21)
set_option maxRecDepth 65536 in
set_option maxHeartbeats 40000000 in
theorem s_tok {l : Launch} {Z : State} {a0 : Array Value} (hw : ∀ d ∈ tables_1, d.before a0 Z = true) {h0 : Heap} {n0 : Nat} (p G1 : Int32) (eh : h0 = Z.heap) (en : n0 = Z.heap.size) (hh : Jvm.Lit.constHeld Z "com/example/guardbee/guardbee/util/HttpSyntax" 7) (hcw : Jvm.Lit.compactW.before a0 Z = true) (O2 : Sta Z Z.heap "java/lang/String" "COMPACT_STRINGS" "Z" (.int G1)) (P5 : ¬ G1 = 0) (X : Old Z n0 h0) :
    MetWI l Z (⟨"com/example/guardbee/guardbee/util/HttpSyntax", "isTokenCharacter", "(C)Z"⟩ : MethodName) prog_137_method_2_code 1 (some .boolean) R_s_tok n0 h0 #[(.int p)] (fun r h => ∃ i : Int32, r = some (.int i) ∧ (i = 1 ∧ own_tok p ∨ i = 0 ∧ ¬ own_tok p)) := by
  refine MetWI.intro (plainFor_of_name (by first | (simp [plainName, overriddenIn, x]; done) | decide +kernel)) (fun m => (show entryFrame m #[(.int p)] 1 = mkF m 0 #[.val (.int p)] [] from by first | rfl | (simp [entryFrame, mkF, argsToLocals, Value.category]; done))) (fun w Y C CW hH hI => ?_)
  refine g_iloadN C d1_0 (pc' := 1) rfl rfl ?_
  refine g_bipush C (z := (97 : Int32)) d1_1 (pc' := 3) rfl rfl ?_
  refine g_icmp_lt C d1_3 (by decide) (pc' := 12) (by decide) (pcN := 6) rfl (fun q3 => ?_) (fun q3 => ?_)
  · have z3 : p.toInt < 97 := Int32.lt_iff_toInt_lt.mp q3
    exact t12 (C := C) hw p G1 CW (hH.trans eh) hI en hh hcw O2 P5 X (Or.inl z3)
  · have z3 : ¬ p.toInt < 97 := fun a => q3 (Int32.lt_iff_toInt_lt.mpr a)
    refine g_iloadN C d1_6 (pc' := 7) rfl rfl ?_
    refine g_bipush C (z := (122 : Int32)) d1_7 (pc' := 9) rfl rfl ?_
    refine g_icmp_le C d1_9 (by decide) (pc' := 45) (by decide) (pcN := 12) rfl (fun q9 => ?_) (fun q9 => ?_)
    · have z9 : ¬ 122 < p.toInt := fun a => q9 (Int32.lt_iff_toInt_lt.mpr a)
      refine g_iconst C (z := (1 : Int32)) d1_45 (pc' := 46) rfl rfl ?_
      refine g_goto C d1_46 (by decide) (pc' := 50) (by decide) ?_
      exact g_retN C (t := .boolean) rfl (by simp) d1_50 ⟨1, rfl, Or.inl ⟨rfl, by unfold own_tok; omega⟩⟩ (by decide) (by decide)
    · have z9 : 122 < p.toInt := Int32.lt_iff_toInt_lt.mp q9
      exact t12 (C := C) hw p G1 CW (hH.trans eh) hI en hh hcw O2 P5 X (Or.inr z9)
set_option maxRecDepth 65536 in
set_option maxHeartbeats 40000000 in
theorem a54 {l : Launch} {Z : State} {a0 : Array Value} (hw : ∀ d ∈ tables_1, d.before a0 Z = true) {w : Wk} {n0 : Nat} {h0 : Heap} {Y : State → Outcome → Prop} (p0 p1 ch vi e G1 : Int32) (C : Cx w Z "com/example/guardbee/guardbee/util/HttpSyntaxIsTokenCharacterPinLaw" code 5 (some .boolean) "law" room_1 n0 (fun v _ => v = some (.int 1)) Y) (CW : LvW w room_1 n0 (fun v _ => v = some (.int 1)) Y) (eh : h0 = Z.heap) (hI : w.s.vm.interned = Z.vm.interned) (en : n0 = Z.heap.size) (hh : Jvm.Lit.constHeld Z "com/example/guardbee/guardbee/util/HttpSyntax" 7) (hcw : Jvm.Lit.compactW.before a0 Z = true) (O2 : Sta Z Z.heap "java/lang/String" "COMPACT_STRINGS" "Z" (.int G1)) (P5 : ¬ G1 = 0) (X : Old Z n0 h0) (he : e = 1 ∧ own_tok ch ∨ e = 0 ∧ ¬ own_tok ch) :
    Go w l room_1 n0 Y h0 0 0 54 #[.val (.int p0), .val (.int p1), .val (.int ch), .val (.int vi), .val (.int e)] [] := by
  refine g_iloadN C at_54 (pc' := 55) rfl rfl ?_
  refine g_staticS (rm := R_s_tok) C CW (y := (⟨"com/example/guardbee/guardbee/util/HttpSyntax", "isTokenCharacter", "(C)Z"⟩ : MethodName)) (hw _ (List.mem_of_getElem? (i := 0) rfl)) (hw _ (List.mem_of_getElem? (i := 1) rfl)) (hw _ (List.mem_of_getElem? (i := 2) rfl)) (hw _ (List.mem_of_getElem? (i := 3) rfl)) (by decide) at_55 (pc' := 58) rfl (argsL := [(.int ch)]) (rest := []) (lenOf pd_7 rfl) rfl (W := 0) (Nat.le_of_eq rfl) rfl (fun hn => MetWI.back (rm := R_s_tok) (s_tok hw ch G1 eh en hh hcw O2 P5 X) hn C.hZ hI (hw _ (List.mem_of_getElem? (i := 3) rfl)) (hw _ (List.mem_of_getElem? (i := 2) rfl)) (by decide) (by decide)) (k' := 2) (n' := 64) rfl rfl (by decide) (by decide) ?_
  rintro w _ h1 C CW ⟨i1, rfl, hi⟩
  show Go w l _ n0 _ h1 2 64 58 #[.val (.int p0), .val (.int p1), .val (.int ch), .val (.int vi), .val (.int e)] [(.int i1)]
  refine g_iload C at_58 (pc' := 60) rfl rfl ?_
  refine g_icmp_ne C at_60 (by decide) (pc' := 67) (by decide) (pcN := 63) rfl (fun q => absurd (own_same hi he) q) (fun _ => ?_)
  refine g_iconst C (z := (1 : Int32)) at_63 (pc' := 64) rfl rfl ?_
  refine g_goto C at_64 (by decide) (pc' := 68) (by decide) ?_
  exact g_retN C (t := .boolean) rfl (by simp) at_68 rfl (by decide) (by decide)
set_option maxRecDepth 65536 in
set_option maxHeartbeats 40000000 in
theorem a18 {l : Launch} {Z : State} {a0 : Array Value} (hw : ∀ d ∈ tables_1, d.before a0 Z = true) {w : Wk} {n0 : Nat} {h0 : Heap} {Y : State → Outcome → Prop} (p0 p1 ch G1 : Int32) (C : Cx w Z "com/example/guardbee/guardbee/util/HttpSyntaxIsTokenCharacterPinLaw" code 5 (some .boolean) "law" room_1 n0 (fun v _ => v = some (.int 1)) Y) (CW : LvW w room_1 n0 (fun v _ => v = some (.int 1)) Y) (eh : h0 = Z.heap) (hI : w.s.vm.interned = Z.vm.interned) (en : n0 = Z.heap.size) (hh : Jvm.Lit.constHeld Z "com/example/guardbee/guardbee/util/HttpSyntax" 7) (hcw : Jvm.Lit.compactW.before a0 Z = true) (O2 : Sta Z Z.heap "java/lang/String" "COMPACT_STRINGS" "Z" (.int G1)) (P5 : ¬ G1 = 0) (X : Old Z n0 h0) :
    Go w l room_1 n0 Y h0 0 0 18 #[.val (.int p0), .val (.int p1), .val (.int ch), .unset, .unset] [] := by
  refine g_iloadN C at_18 (pc' := 19) rfl rfl ?_
  refine g_bipush C (z := (33 : Int32)) at_19 (pc' := 21) rfl rfl ?_
  refine g_icmp_lt C at_21 (by decide) (pc' := 34) (by decide) (pcN := 24) rfl (fun q21 => ?_) (fun q21 => ?_)
  · have z21 : ch.toInt < 33 := Int32.lt_iff_toInt_lt.mp q21
    refine g_iconst C (z := (0 : Int32)) at_34 (pc' := 35) rfl rfl ?_
    refine g_istoreN C at_35 (pc' := 36) rfl (Ls' := #[.val (.int p0), .val (.int p1), .val (.int ch), .val (.int (0 : Int32)), .unset]) rfl ?_
    refine g_iloadN C at_36 (pc' := 37) rfl rfl ?_
    refine g_if_eq C at_37 (by decide) (pc' := 51) (by decide) (pcN := 40) rfl (fun _ => ?_) (fun q => absurd rfl q)
    refine g_iconst C (z := (0 : Int32)) at_51 (pc' := 52) rfl rfl ?_
    refine g_istore C at_52 (pc' := 54) rfl (Ls' := #[.val (.int p0), .val (.int p1), .val (.int ch), .val (.int (0 : Int32)), .val (.int (0 : Int32))]) rfl ?_
    exact a54 (C := C) hw p0 p1 ch (0 : Int32) (0 : Int32) G1 CW eh hI en hh hcw O2 P5 X (Or.inr ⟨rfl, by unfold own_tok own_tokS; omega⟩)
  · have z21 : ¬ ch.toInt < 33 := fun a => q21 (Int32.lt_iff_toInt_lt.mpr a)
    refine g_iloadN C at_24 (pc' := 25) rfl rfl ?_
    refine g_bipush C (z := (126 : Int32)) at_25 (pc' := 27) rfl rfl ?_
    refine g_icmp_gt C at_27 (by decide) (pc' := 34) (by decide) (pcN := 30) rfl (fun q27 => ?_) (fun q27 => ?_)
    · have z27 : 126 < ch.toInt := Int32.lt_iff_toInt_lt.mp q27
      refine g_iconst C (z := (0 : Int32)) at_34 (pc' := 35) rfl rfl ?_
      refine g_istoreN C at_35 (pc' := 36) rfl (Ls' := #[.val (.int p0), .val (.int p1), .val (.int ch), .val (.int (0 : Int32)), .unset]) rfl ?_
      refine g_iloadN C at_36 (pc' := 37) rfl rfl ?_
      refine g_if_eq C at_37 (by decide) (pc' := 51) (by decide) (pcN := 40) rfl (fun _ => ?_) (fun q => absurd rfl q)
      refine g_iconst C (z := (0 : Int32)) at_51 (pc' := 52) rfl rfl ?_
      refine g_istore C at_52 (pc' := 54) rfl (Ls' := #[.val (.int p0), .val (.int p1), .val (.int ch), .val (.int (0 : Int32)), .val (.int (0 : Int32))]) rfl ?_
      exact a54 (C := C) hw p0 p1 ch (0 : Int32) (0 : Int32) G1 CW eh hI en hh hcw O2 P5 X (Or.inr ⟨rfl, by unfold own_tok own_tokS; omega⟩)
    · have z27 : ¬ 126 < ch.toInt := fun a => q27 (Int32.lt_iff_toInt_lt.mpr a)
      refine g_iconst C (z := (1 : Int32)) at_30 (pc' := 31) rfl rfl ?_
      refine g_goto C at_31 (by decide) (pc' := 35) (by decide) ?_
      refine g_istoreN C at_35 (pc' := 36) rfl (Ls' := #[.val (.int p0), .val (.int p1), .val (.int ch), .val (.int (1 : Int32)), .unset]) rfl ?_
      refine g_iloadN C at_36 (pc' := 37) rfl rfl ?_
      refine g_if_eq C at_37 (by decide) (pc' := 51) (by decide) (pcN := 40) rfl (fun q => absurd q (by decide)) (fun _ => ?_)
      refine g_iloadN C at_40 (pc' := 41) rfl rfl ?_
      refine g_static (rm := R_s_del) C (y := (⟨"com/example/guardbee/guardbee/util/HttpSyntaxIsTokenCharacterPinLaw", "isDelimiter", "(C)Z"⟩ : MethodName)) (hw _ (List.mem_of_getElem? (i := 57) rfl)) (hw _ (List.mem_of_getElem? (i := 58) rfl)) (hw _ (List.mem_of_getElem? (i := 59) rfl)) (hw _ (List.mem_of_getElem? (i := 60) rfl)) (by decide) at_41 (pc' := 44) rfl (argsL := [(.int ch)]) (rest := []) (lenOf pd_7 rfl) rfl (W := 0) (Nat.le_of_eq rfl) rfl (fun hn => Met.back (rm := R_s_del) (s_del hw ch) hn C.hZ (hw _ (List.mem_of_getElem? (i := 60) rfl)) (hw _ (List.mem_of_getElem? (i := 59) rfl)) (by decide) (by decide)) (k' := 0) (n' := 0) rfl rfl (by decide) (by decide) ?_
      rintro _ _ ⟨rfl, i2, rfl, hd⟩
      show Go w l _ n0 _ h0 0 0 44 #[.val (.int p0), .val (.int p1), .val (.int ch), .val (.int (1 : Int32)), .unset] [(.int i2)]
      refine g_if_ne C at_44 (by decide) (pc' := 51) (by decide) (pcN := 47) rfl (fun q44 => ?_) (fun q44 => ?_)
      · refine g_iconst C (z := (0 : Int32)) at_51 (pc' := 52) rfl rfl ?_
        refine g_istore C at_52 (pc' := 54) rfl (Ls' := #[.val (.int p0), .val (.int p1), .val (.int ch), .val (.int (1 : Int32)), .val (.int (0 : Int32))]) rfl ?_
        exact a54 (C := C) hw p0 p1 ch (1 : Int32) (0 : Int32) G1 CW eh hI en hh hcw O2 P5 X (Or.inr ⟨rfl, hd.elim (fun q => by have q := q.2; unfold own_del at q; unfold own_tok own_tokS; omega) (fun q => absurd q.1 q44)⟩)
      · refine g_iconst C (z := (1 : Int32)) at_47 (pc' := 48) rfl rfl ?_
        refine g_goto C at_48 (by decide) (pc' := 52) (by decide) ?_
        refine g_istore C at_52 (pc' := 54) rfl (Ls' := #[.val (.int p0), .val (.int p1), .val (.int ch), .val (.int (1 : Int32)), .val (.int (1 : Int32))]) rfl ?_
        exact a54 (C := C) hw p0 p1 ch (1 : Int32) (1 : Int32) G1 CW eh hI en hh hcw O2 P5 X (Or.inl ⟨rfl, hd.elim (fun q => absurd (q.1 ▸ q44) (by decide)) (fun q => by have q := q.2; unfold own_del at q; unfold own_tok own_tokS; omega)⟩)
set_option maxRecDepth 65536 in
set_option maxHeartbeats 40000000 in
theorem law0 {l : Launch} {Z : State} {a0 : Array Value} (hw : ∀ d ∈ tables_1, d.before a0 Z = true) {h0 : Heap} {n0 : Nat} (p0 p1 G1 : Int32) (eh : h0 = Z.heap) (en : n0 = Z.heap.size) (hh : Jvm.Lit.constHeld Z "com/example/guardbee/guardbee/util/HttpSyntax" 7) (hcw : Jvm.Lit.compactW.before a0 Z = true) (O2 : Sta Z Z.heap "java/lang/String" "COMPACT_STRINGS" "Z" (.int G1)) (P5 : ¬ G1 = 0) (X : Old Z n0 h0) :
    MetWI l Z x code maxLocals ret room_1 n0 h0 #[(.int p0), (.int p1)] (fun v _ => v = some (.int 1)) := by
  refine MetWI.intro (plainFor_of_name (by first | (simp [plainName, overriddenIn, x]; done) | decide +kernel)) (fun m => (show entryFrame m #[(.int p0), (.int p1)] maxLocals = mkF m 0 #[.val (.int p0), .val (.int p1), .unset, .unset, .unset] [] from by first | rfl | (simp [entryFrame, mkF, argsToLocals, Value.category, maxLocals]; done))) (fun w Y C CW hH hI => ?_)
  have C : Cx w Z "com/example/guardbee/guardbee/util/HttpSyntaxIsTokenCharacterPinLaw" code 5 (some .boolean) "law" room_1 n0 _ Y := C
  refine g_iloadN C at_0 (pc' := 1) rfl rfl ?_
  refine g_iconst C (z := (1 : Int32)) at_1 (pc' := 2) rfl rfl ?_
  refine g_iand C at_2 (pc' := 3) rfl ?_
  refine g_if_eq C at_3 (by decide) (pc' := 15) (by decide) (pcN := 6) rfl (fun q3 => ?_) (fun q3 => ?_)
  · refine g_iloadN C at_15 (pc' := 16) rfl rfl ?_
    refine g_i2c C at_16 (pc' := 17) rfl ?_
    refine g_istoreN C at_17 (pc' := 18) rfl (Ls' := #[.val (.int p0), .val (.int p1), .val (.int (p0.toUInt32.toUInt16.toUInt32.toInt32)), .unset, .unset]) rfl ?_
    exact a18 (C := C) hw p0 p1 (p0.toUInt32.toUInt16.toUInt32.toInt32) G1 CW eh hI en hh hcw O2 P5 X
  · refine g_iloadN C at_6 (pc' := 7) rfl rfl ?_
    refine g_bipush C (z := (127 : Int32)) at_7 (pc' := 9) rfl rfl ?_
    refine g_iand C at_9 (pc' := 10) rfl ?_
    refine g_i2c C at_10 (pc' := 11) rfl ?_
    refine g_istoreN C at_11 (pc' := 12) rfl (Ls' := #[.val (.int p0), .val (.int p1), .val (.int ((p0 &&& (127 : Int32)).toUInt32.toUInt16.toUInt32.toInt32)), .unset, .unset]) rfl ?_
    refine g_goto C at_12 (by decide) (pc' := 18) (by decide) ?_
    exact a18 (C := C) hw p0 p1 ((p0 &&& (127 : Int32)).toUInt32.toUInt16.toUInt32.toInt32) G1 CW eh hI en hh hcw O2 P5 X
set_option maxRecDepth 65536 in
set_option maxHeartbeats 40000000 in
theorem comes_1 {Post : Tables → Env → Array Value → State → Outcome → State → Prop} (hpost : ∀ tb e args s v u, (limb_1_1.after args s (.returned v) u = true ∧ limb_1_2.after args s (.returned v) u = true ∧ True) → ReturnedEndW s (.returned v) u (Jvm.fieldLocs frame_1_writes args s ++ Jvm.arrayLocs frame_1_arrays args s ++ Jvm.staticLocs frame_1_statics s) 8 1088 → Post tb e args s (.returned v) u) :
    ArmFor flags0 classFile x code maxLocals ret World_1 tables_1 room_1 Calls_1 rest_1 Pre_1 Post := by
  intro l hfl _ _ p e ha hc hk s m args below hf hA hF happ hP
  obtain ⟨hcalls, hrest, hpre⟩ := hP
  obtain ⟨-, -, -, hnamed, -, -, -, hat⟩ := (Spec.applies_iff hf).mp happ
  obtain ⟨hg, hn⟩ := and_e (Cond.before_iff.mp (show (Jvm.Cond.and given_1 narrow_1).before args s = true from hpre))
  obtain ⟨g0, r0⟩ := and_e hg
  obtain ⟨g1, r1⟩ := and_e r0
  have g2 := r1
  obtain ⟨w0, w1, rfl⟩ : ∃ w0 w1 : Value, args = #[w0, w1] := by
    have hs : args.size = 2 := by simpa [Cond.value, given_1] using g0
    obtain ⟨L⟩ := args
    match L, hs with
    | [w0, w1], _ => exact ⟨w0, w1, rfl⟩
  have hw := fun d (hd : d ∈ tables_1) => atoms_spec (ws := Jvm.Cond.code x code maxLocals ret :: tables_1) hat d (List.mem_cons_of_mem _ hd)
  have hfit : Fit s := fun {y c} hc i hi => by
    obtain ⟨ha, rfl⟩ := Array.getElem?_eq_some_iff.mp hc
    have q := List.all_eq_true.mp ((Array.all_eq_true_iff_forall_mem.mp hF) _ (Array.getElem_mem ha)) i (List.mem_range.mpr hi)
    simpa [Array.getElem?_eq_getElem hi] using q
  obtain ⟨i0, ei0⟩ := is_v g1
  obtain rfl : w0 = (.int i0) := Option.some.inj ei0
  obtain ⟨i1, ei1⟩ := is_v g2
  obtain rfl : w1 = (.int i1) := Option.some.inj ei1
  obtain ⟨hsets, hown0⟩ := atoms_of _ (rest_1_c_eq ▸ (show rest_1_c.before _ s = true from hrest))
  have n3 := not_v (Cond.before_iff.mp (hsets _ (List.mem_of_getElem? (i := 2) rfl)))
  obtain ⟨G1, eG1⟩ := is_v (Cond.before_iff.mp (hsets _ (List.mem_of_getElem? (i := 1) rfl)))
  have O2 : Sta s s.heap "java/lang/String" "COMPACT_STRINGS" "Z" (.int G1) := Sta.start eG1 (Or.inl (hsets _ (List.mem_of_getElem? (i := 0) rfl)))
  have P5 : ¬ (G1 = (0 : Int32)) := gotF (Cond.eq_ints eG1 (Term.int_eval (0))) n3
  obtain ⟨G3, eG3, rG3⟩ := isR_v (Cond.before_iff.mp (hsets _ (List.mem_of_getElem? (i := 8) rfl)))
  have O4 : Sta s s.heap "jdk/internal/util/Preconditions" "SIOOBE_FORMATTER" "Ljava/util/function/BiFunction;" G3 := Sta.start eG3 (Or.inl (hsets _ (List.mem_of_getElem? (i := 7) rfl)))
  obtain ⟨n, o, h1, h2, h3, _, L, rfl, ⟨rfl, N, -⟩, hq⟩ := law0 (l := l) (Z := s) hw (h0 := s.heap) (n0 := s.heap.size) i0 i1 G1 rfl rfl (hcalls.1 ("com/example/guardbee/guardbee/util/HttpSyntax", 7) (List.mem_cons_self ..)) (hsets _ (List.mem_of_getElem? (i := 2) rfl)) O2 P5 (Old.start s) (Nat.le_refl _) tables_1 p e ha hc hk s m _ below hf ((Spec.applies_iff_loose hf).mp happ).1 ⟨rfl, State.Warmed39.refl s, rfl, rfl⟩ trivial
  exact ⟨n, _, h1, h2, h3, hpost _ _ _ _ _ _ ⟨Cond.after_iff.mpr rfl, Cond.after_iff.mpr (eq_i res_at (Term.int_eval (1)) rfl), trivial⟩ ⟨hq.1, hq.2.1, hq.2.2.1, (hq.2.2.2.sift fun y hy => Or.inr (N y hy)).mono (by decide) (by decide)⟩⟩
theorem main_1_1 : Claimed_1_1 := comes_1 fun _ _ _ _ _ _ h hF => ⟨h.1, hF⟩
theorem main_1_2 : Claimed_1_2 := comes_1 fun _ _ _ _ _ _ h hF => ⟨h.2.1, hF⟩
end Jvm.Pilot.@@N@@
namespace Jvm.Pilot.@@N@@
open Jvm Jvm.ClassFile Sem Op Lib Jvm.Free Jvm.Stand Jvm.Pilot.@@N@@.Jvm.D
/-! MADE BY PROGRAM (witnessworld.py) out of the Statement's table words and the real class files: 18 classes; the members and pool entries that the words name. The judged class is class 1, her method 2. -/
namespace start1
open Jvm.ClassFile
def u (s : String) : CpInfo := .utf8 (stringToUtf16 s)
/-- a pool by its gaps: so many unusable entries, then the entry; so many at the end -/
def gap : Nat → List CpInfo → List CpInfo
  | 0, r => r
  | n + 1, r => .unusable :: gap n r
def poolList (es : List (Nat × CpInfo)) (last : Nat) : List CpInfo := es.foldr (fun e r => gap e.1 (e.2 :: r)) (gap last [])
def pool (es : List (Nat × CpInfo)) (last : Nat) : Array CpInfo := ⟨poolList es last⟩
def fileOf (pool : Array CpInfo) (this : Nat) (attrs : Array Attribute := #[]) (ms : Array MethodInfo := #[]) (fl : Nat := 33) (sup : Nat := 0) (ifs : Array Nat := #[]) (fds : Array FieldInfo := #[]) : ClassFile where
  minorVersion := 0
  majorVersion := 65
  constantPool := pool
  accessFlags := fl
  thisClass := this
  superClass := sup
  interfaces := ifs
  fields := fds
  methods := ms
  attributes := attrs
def plain (name : String) (sup : Option ClassId) : Class where
  name := name
  kind := .ordinary
  loader := none
  accessFlags := 33
  super := sup
  interfaces := #[]
  cf := none
  fields := #[]
  methods := #[]
  instanceTypes := #[]
  staticTypes := #[]
  resolved := #[]
  callSites := []
  init := .initialized
  statics := none
  mirror := none

def pool0 : Array CpInfo := pool [(5, u "<init>"), (0, u "()V"), (1, .class_ 10), (1, u "java/lang/Object")] 113

def k0m0 : Method := { name := "<init>", desc := "()V", sig := { parameters := [], returnType := none }, accessFlags := 1, code := none }
/-- java/lang/Object -/
def k0 : Class := { plain "java/lang/Object" none with
  accessFlags := 33
  interfaces := #[]
  cf := some (fileOf pool0 8 #[] #[{ accessFlags := 1, nameIndex := 5, descriptorIndex := 6, attributes := #[] }] 33 0 #[] #[])
  fields := #[]
  methods := #[k0m0]
  instanceTypes := #[]
  staticTypes := #[]
  resolved := Array.replicate 124 none
  statics := none }

def pool1 : Array CpInfo := pool [(2, .class_ 4), (1, u "java/lang/Object"), (0, u "<init>"), (0, u "()V"), (0, .methodref 8 9), (0, .class_ 10), (0, .nameAndType 11 12), (0, u "com/example/guardbee/guardbee/util/HttpSyntaxIsTokenCharacterPinLaw"), (0, u "isDelimiter"), (0, u "(C)Z"), (0, .methodref 14 15), (0, .class_ 16), (0, .nameAndType 17 12), (0, u "com/example/guardbee/guardbee/util/HttpSyntax"), (0, u "isTokenCharacter"), (3, u "law"), (0, u "(II)Z")] 2

def k1m0 : Method := { name := "<init>", desc := "()V", sig := { parameters := [], returnType := none }, accessFlags := 2, code := none }
def k1c1 : Code := { maxStack := 2, maxLocals := 1, code := method_2_code, exceptionTable := #[], attributes := #[] }
def k1m1 : Method := { name := "isDelimiter", desc := "(C)Z", sig := { parameters := [.char], returnType := some .boolean }, accessFlags := 10, code := some k1c1 }
def k1c2 : Code := { maxStack := 2, maxLocals := 5, code := code, exceptionTable := #[], attributes := #[] }
def k1m2 : Method := { name := "law", desc := "(II)Z", sig := { parameters := [.int, .int], returnType := some .boolean }, accessFlags := 9, code := some k1c2 }
/-- com/example/guardbee/guardbee/util/HttpSyntaxIsTokenCharacterPinLaw -/
def k1 : Class := { plain "com/example/guardbee/guardbee/util/HttpSyntaxIsTokenCharacterPinLaw" (some 0) with
  accessFlags := 49
  interfaces := #[]
  cf := some (fileOf pool1 8 #[] #[{ accessFlags := 2, nameIndex := 5, descriptorIndex := 6, attributes := #[] }, { accessFlags := 10, nameIndex := 11, descriptorIndex := 12, attributes := #[] }, { accessFlags := 9, nameIndex := 21, descriptorIndex := 22, attributes := #[] }] 49 2 #[] #[])
  fields := #[]
  methods := #[k1m0, k1m1, k1m2]
  instanceTypes := #[]
  staticTypes := #[]
  resolved := Array.replicate 25 none
  statics := none }

def pool2 : Array CpInfo := pool [(2, .class_ 4), (1, u "java/lang/Object"), (0, u "<init>"), (0, u "()V"), (0, .string 8), (0, u "!#$%&'*+-.^_`|~"), (0, .methodref 10 11), (0, .class_ 12), (0, .nameAndType 13 14), (0, u "java/lang/String"), (0, u "indexOf"), (0, u "(I)I"), (9, .class_ 26), (1, u "com/example/guardbee/guardbee/util/HttpSyntax"), (0, u "isTokenCharacter"), (0, u "(C)Z")] 26

def k2m0 : Method := { name := "<init>", desc := "()V", sig := { parameters := [], returnType := none }, accessFlags := 2, code := none }
def k2c1 : Code := { maxStack := 2, maxLocals := 1, code := prog_137_method_2_code, exceptionTable := #[], attributes := #[] }
def k2m1 : Method := { name := "isTokenCharacter", desc := "(C)Z", sig := { parameters := [.char], returnType := some .boolean }, accessFlags := 9, code := some k2c1 }
/-- com/example/guardbee/guardbee/util/HttpSyntax -/
def k2 : Class := { plain "com/example/guardbee/guardbee/util/HttpSyntax" (some 0) with
  accessFlags := 33
  interfaces := #[]
  cf := some (fileOf pool2 24 #[] #[{ accessFlags := 2, nameIndex := 5, descriptorIndex := 6, attributes := #[] }, { accessFlags := 9, nameIndex := 27, descriptorIndex := 28, attributes := #[] }] 33 2 #[] #[])
  fields := #[]
  methods := #[k2m0, k2m1]
  instanceTypes := #[]
  staticTypes := #[]
  resolved := Array.replicate 55 none
  statics := none }

def pool3 : Array CpInfo := pool [(1, .class_ 2), (0, u "java/io/Serializable"), (0, .class_ 4), (0, u "java/lang/Object")] 2

/-- java/io/Serializable -/
def k3 : Class := { plain "java/io/Serializable" (some 0) with
  accessFlags := 1537
  interfaces := #[]
  cf := some (fileOf pool3 1 #[] #[] 1537 3 #[] #[])
  fields := #[]
  methods := #[]
  instanceTypes := #[]
  staticTypes := #[]
  resolved := Array.replicate 7 none
  statics := none }

def pool4 : Array CpInfo := pool [(1, .class_ 2), (0, u "java/lang/Comparable"), (0, .class_ 4), (0, u "java/lang/Object")] 7

/-- java/lang/Comparable -/
def k4 : Class := { plain "java/lang/Comparable" (some 0) with
  accessFlags := 1537
  interfaces := #[]
  cf := some (fileOf pool4 1 #[] #[] 1537 3 #[] #[])
  fields := #[]
  methods := #[]
  instanceTypes := #[]
  staticTypes := #[]
  resolved := Array.replicate 12 none
  statics := none }

def pool5 : Array CpInfo := pool [(2, .class_ 4), (1, u "java/lang/CharSequence"), (42, .class_ 48), (0, u "java/lang/CharSequence$1CodePointIterator"), (10, .class_ 60), (0, u "java/lang/CharSequence$1CharIterator"), (5, .class_ 67), (0, u "java/lang/Object")] 63

/-- java/lang/CharSequence -/
def k5 : Class := { plain "java/lang/CharSequence" (some 0) with
  accessFlags := 1537
  interfaces := #[]
  cf := some (fileOf pool5 2 #[.nestMembers #[47, 59]] #[] 1537 66 #[] #[])
  fields := #[]
  methods := #[]
  instanceTypes := #[]
  staticTypes := #[]
  resolved := Array.replicate 131 none
  statics := none }

def pool6 : Array CpInfo := pool [(1, .class_ 2), (0, u "java/lang/constant/Constable"), (0, .class_ 4), (0, u "java/lang/Object")] 6

/-- java/lang/constant/Constable -/
def k6 : Class := { plain "java/lang/constant/Constable" (some 0) with
  accessFlags := 1537
  interfaces := #[]
  cf := some (fileOf pool6 1 #[] #[] 1537 3 #[] #[])
  fields := #[]
  methods := #[]
  instanceTypes := #[]
  staticTypes := #[]
  resolved := Array.replicate 11 none
  statics := none }

def pool7 : Array CpInfo := pool [(1, .class_ 2), (0, u "java/lang/constant/ConstantDesc"), (0, .class_ 4), (0, u "java/lang/Object")] 32

/-- java/lang/constant/ConstantDesc -/
def k7 : Class := { plain "java/lang/constant/ConstantDesc" (some 0) with
  accessFlags := 1537
  interfaces := #[]
  cf := some (fileOf pool7 1 #[] #[] 1537 3 #[] #[])
  fields := #[]
  methods := #[]
  instanceTypes := #[]
  staticTypes := #[]
  resolved := Array.replicate 37 none
  statics := none }

def pool8 : Array CpInfo := pool [(2, .class_ 4), (1, u "java/lang/Object"), (0, u "<init>"), (0, u "()V"), (2, .fieldref 10 11), (0, .class_ 12), (0, .nameAndType 13 14), (0, u "java/lang/String"), (0, u "value"), (0, u "[B"), (0, .fieldref 10 16), (0, .nameAndType 17 18), (0, u "coder"), (0, u "B"), (2, u "hash"), (0, u "I"), (2, u "hashIsZero"), (0, u "Z"), (11, .fieldref 10 39), (0, .nameAndType 40 26), (0, u "COMPACT_STRINGS"), (66, .class_ 109), (1, u "java/lang/StringLatin1"), (32, u "()Z"), (191, u "()I"), (0, .methodref 10 336), (0, .nameAndType 17 337), (0, u "()B"), (154, .methodref 10 493), (0, .nameAndType 494 142), (0, u "isLatin1"), (10, .methodref 10 506), (0, .nameAndType 507 334), (0, u "length"), (67, .class_ 576), (0, u "java/lang/CharSequence"), (22, u "CASE_INSENSITIVE_ORDER"), (0, u "Ljava/util/Comparator;"), (32, .methodref 10 634), (0, .nameAndType 635 636), (0, u "indexOf"), (0, u "(II)I"), (0, .methodref 107 638), (0, .nameAndType 635 639), (0, u "([BIII)I"), (125, u "(I)I"), (335, u "serialPersistentFields"), (0, u "[Ljava/io/ObjectStreamField;"), (0, .class_ 1104), (0, u "java/lang/String$CaseInsensitiveComparator"), (1, .class_ 1107), (0, u "java/io/Serializable"), (0, .class_ 1109), (0, u "java/lang/Comparable"), (0, .class_ 1111), (0, u "java/lang/constant/Constable"), (0, .class_ 1113), (0, u "java/lang/constant/ConstantDesc"), (2, u "serialVersionUID"), (0, u "J"), (3, u "REPL"), (0, u "C"), (2, u "LATIN1"), (1, u "UTF16")] 323

def k8m0 : Method := { name := "<init>", desc := "()V", sig := { parameters := [], returnType := none }, accessFlags := 1, code := none }
def k8c1 : Code := { maxStack := 2, maxLocals := 1, code := jdk_42_method_54_code, exceptionTable := #[], attributes := #[] }
def k8m1 : Method := { name := "length", desc := "()I", sig := { parameters := [], returnType := some .int }, accessFlags := 1, code := some k8c1 }
def k8c2 : Code := { maxStack := 3, maxLocals := 2, code := jdk_42_method_79_code, exceptionTable := #[], attributes := #[] }
def k8m2 : Method := { name := "indexOf", desc := "(I)I", sig := { parameters := [.int], returnType := some .int }, accessFlags := 1, code := some k8c2 }
def k8c3 : Code := { maxStack := 4, maxLocals := 3, code := jdk_42_method_80_code, exceptionTable := #[], attributes := #[] }
def k8m3 : Method := { name := "indexOf", desc := "(II)I", sig := { parameters := [.int, .int], returnType := some .int }, accessFlags := 1, code := some k8c3 }
def k8c4 : Code := { maxStack := 1, maxLocals := 1, code := jdk_42_method_152_code, exceptionTable := #[], attributes := #[] }
def k8m4 : Method := { name := "coder", desc := "()B", sig := { parameters := [], returnType := some .byte }, accessFlags := 0, code := some k8c4 }
def k8c5 : Code := { maxStack := 1, maxLocals := 1, code := jdk_42_method_154_code, exceptionTable := #[], attributes := #[] }
def k8m5 : Method := { name := "isLatin1", desc := "()Z", sig := { parameters := [], returnType := some .boolean }, accessFlags := 0, code := some k8c5 }
/-- java/lang/String -/
def k8 : Class := { plain "java/lang/String" (some 0) with
  accessFlags := 49
  interfaces := #[3, 4, 5, 6, 7]
  cf := some (fileOf pool8 10 #[.nestMembers #[1103]] #[{ accessFlags := 1, nameIndex := 5, descriptorIndex := 6, attributes := #[] }, { accessFlags := 1, nameIndex := 507, descriptorIndex := 334, attributes := #[] }, { accessFlags := 1, nameIndex := 635, descriptorIndex := 765, attributes := #[] }, { accessFlags := 1, nameIndex := 635, descriptorIndex := 636, attributes := #[] }, { accessFlags := 0, nameIndex := 17, descriptorIndex := 337, attributes := #[] }, { accessFlags := 0, nameIndex := 494, descriptorIndex := 142, attributes := #[] }] 49 2 #[1106, 1108, 575, 1110, 1112] #[{ accessFlags := 18, nameIndex := 13, descriptorIndex := 14, attributes := #[] }, { accessFlags := 18, nameIndex := 17, descriptorIndex := 18, attributes := #[] }, { accessFlags := 2, nameIndex := 21, descriptorIndex := 22, attributes := #[] }, { accessFlags := 2, nameIndex := 25, descriptorIndex := 26, attributes := #[] }, { accessFlags := 26, nameIndex := 1116, descriptorIndex := 1117, attributes := #[] }, { accessFlags := 24, nameIndex := 40, descriptorIndex := 26, attributes := #[] }, { accessFlags := 26, nameIndex := 1101, descriptorIndex := 1102, attributes := #[] }, { accessFlags := 26, nameIndex := 1121, descriptorIndex := 1122, attributes := #[] }, { accessFlags := 25, nameIndex := 599, descriptorIndex := 600, attributes := #[] }, { accessFlags := 24, nameIndex := 1125, descriptorIndex := 18, attributes := #[] }, { accessFlags := 24, nameIndex := 1127, descriptorIndex := 18, attributes := #[] }])
  fields := #[{ name := "value", type := (.array .byte), accessFlags := 18, slot := 0, constantValue := 0 }, { name := "coder", type := .byte, accessFlags := 18, slot := 1, constantValue := 0 }, { name := "hash", type := .int, accessFlags := 2, slot := 2, constantValue := 0 }, { name := "hashIsZero", type := .boolean, accessFlags := 2, slot := 3, constantValue := 0 }, { name := "serialVersionUID", type := .long, accessFlags := 26, slot := 0, constantValue := 0 }, { name := "COMPACT_STRINGS", type := .boolean, accessFlags := 24, slot := 1, constantValue := 0 }, { name := "serialPersistentFields", type := (.array (.object "java/io/ObjectStreamField")), accessFlags := 26, slot := 2, constantValue := 0 }, { name := "REPL", type := .char, accessFlags := 26, slot := 3, constantValue := 0 }, { name := "CASE_INSENSITIVE_ORDER", type := (.object "java/util/Comparator"), accessFlags := 25, slot := 4, constantValue := 0 }, { name := "LATIN1", type := .byte, accessFlags := 24, slot := 5, constantValue := 0 }, { name := "UTF16", type := .byte, accessFlags := 24, slot := 6, constantValue := 0 }]
  methods := #[k8m0, k8m1, k8m2, k8m3, k8m4, k8m5]
  instanceTypes := #[(.array .byte), .byte, .int, .boolean]
  staticTypes := #[.long, .boolean, (.array (.object "java/io/ObjectStreamField")), .char, (.object "java/util/Comparator"), .byte, .byte]
  resolved := Array.replicate 1451 none
  statics := some 0 }

def pool9 : Array CpInfo := pool [(4, .class_ 6), (1, u "java/lang/Object"), (0, u "<init>"), (0, u "()V"), (5, .class_ 16), (1, u "java/lang/StringLatin1"), (21, .methodref 39 40), (0, .class_ 41), (0, .nameAndType 42 43), (0, u "java/lang/Math"), (0, u "min"), (0, u "(II)I"), (44, .methodref 14 89), (0, .nameAndType 90 91), (0, u "canEncode"), (0, u "(I)Z"), (0, .methodref 39 93), (0, .nameAndType 94 43), (0, u "max"), (0, .methodref 14 96), (0, .nameAndType 97 98), (0, u "indexOfChar"), (0, u "([BIII)I"), (2, u "indexOf"), (19, u "$assertionsDisabled"), (0, u "Z"), (98, .class_ 223), (1, u "java/lang/StringLatin1$LinesSpliterator"), (166, .class_ 391), (0, u "java/lang/StringLatin1$CharsSpliterator")] 3

def k9m0 : Method := { name := "<init>", desc := "()V", sig := { parameters := [], returnType := none }, accessFlags := 0, code := none }
def k9c1 : Code := { maxStack := 2, maxLocals := 1, code := jdk_43_method_4_code, exceptionTable := #[], attributes := #[] }
def k9m1 : Method := { name := "canEncode", desc := "(I)Z", sig := { parameters := [.int], returnType := some .boolean }, accessFlags := 9, code := some k9c1 }
def k9c2 : Code := { maxStack := 4, maxLocals := 4, code := jdk_43_method_22_code, exceptionTable := #[], attributes := #[] }
def k9m2 : Method := { name := "indexOf", desc := "([BIII)I", sig := { parameters := [(.array .byte), .int, .int, .int], returnType := some .int }, accessFlags := 9, code := some k9c2 }
def k9c3 : Code := { maxStack := 2, maxLocals := 6, code := jdk_43_method_23_code, exceptionTable := #[], attributes := #[] }
def k9m3 : Method := { name := "indexOfChar", desc := "([BIII)I", sig := { parameters := [(.array .byte), .int, .int, .int], returnType := some .int }, accessFlags := 10, code := some k9c3 }
/-- java/lang/StringLatin1 -/
def k9 : Class := { plain "java/lang/StringLatin1" (some 0) with
  accessFlags := 48
  interfaces := #[]
  cf := some (fileOf pool9 14 #[.nestMembers #[390, 221]] #[{ accessFlags := 0, nameIndex := 7, descriptorIndex := 8, attributes := #[] }, { accessFlags := 9, nameIndex := 90, descriptorIndex := 91, attributes := #[] }, { accessFlags := 9, nameIndex := 101, descriptorIndex := 98, attributes := #[] }, { accessFlags := 10, nameIndex := 97, descriptorIndex := 98, attributes := #[] }] 48 4 #[] #[{ accessFlags := 4120, nameIndex := 121, descriptorIndex := 122, attributes := #[] }])
  fields := #[{ name := "$assertionsDisabled", type := .boolean, accessFlags := 4120, slot := 0, constantValue := 0 }]
  methods := #[k9m0, k9m1, k9m2, k9m3]
  instanceTypes := #[]
  staticTypes := #[.boolean]
  resolved := Array.replicate 395 none
  statics := none }

def pool10 : Array CpInfo := pool [(1, .class_ 2), (0, u "java/lang/Math"), (1, .class_ 6), (1, u "java/lang/Object"), (0, u "<init>"), (0, u "()V"), (89, .class_ 100), (1, u "java/lang/Math$RandomNumberGeneratorHolder"), (71, u "negativeZeroFloatBits"), (0, u "J"), (2, u "negativeZeroDoubleBits"), (21, u "max"), (2, u "min"), (43, u "$assertionsDisabled"), (0, u "Z"), (88, u "(II)I"), (2, u "twoToTheDoubleScaleDown"), (0, u "D"), (4, u "twoToTheDoubleScaleUp"), (9, u "E"), (3, u "PI"), (2, u "TAU"), (2, u "DEGREES_TO_RADIANS"), (0, u "RADIANS_TO_DEGREES")] 94

def k10m0 : Method := { name := "<init>", desc := "()V", sig := { parameters := [], returnType := none }, accessFlags := 2, code := none }
def k10c1 : Code := { maxStack := 2, maxLocals := 2, code := jdk_29_method_65_code, exceptionTable := #[], attributes := #[] }
def k10m1 : Method := { name := "max", desc := "(II)I", sig := { parameters := [.int, .int], returnType := some .int }, accessFlags := 9, code := some k10c1 }
def k10c2 : Code := { maxStack := 2, maxLocals := 2, code := jdk_29_method_69_code, exceptionTable := #[], attributes := #[] }
def k10m2 : Method := { name := "min", desc := "(II)I", sig := { parameters := [.int, .int], returnType := some .int }, accessFlags := 9, code := some k10c2 }
/-- java/lang/Math -/
def k10 : Class := { plain "java/lang/Math" (some 0) with
  accessFlags := 49
  interfaces := #[]
  cf := some (fileOf pool10 1 #[.nestMembers #[98]] #[{ accessFlags := 2, nameIndex := 7, descriptorIndex := 8, attributes := #[] }, { accessFlags := 9, nameIndex := 198, descriptorIndex := 335, attributes := #[] }, { accessFlags := 9, nameIndex := 201, descriptorIndex := 335, attributes := #[] }] 49 4 #[] #[{ accessFlags := 25, nameIndex := 354, descriptorIndex := 339, attributes := #[] }, { accessFlags := 25, nameIndex := 358, descriptorIndex := 339, attributes := #[] }, { accessFlags := 25, nameIndex := 361, descriptorIndex := 339, attributes := #[] }, { accessFlags := 26, nameIndex := 364, descriptorIndex := 339, attributes := #[] }, { accessFlags := 26, nameIndex := 365, descriptorIndex := 339, attributes := #[] }, { accessFlags := 26, nameIndex := 172, descriptorIndex := 173, attributes := #[] }, { accessFlags := 26, nameIndex := 176, descriptorIndex := 173, attributes := #[] }, { accessFlags := 8, nameIndex := 344, descriptorIndex := 339, attributes := #[] }, { accessFlags := 8, nameIndex := 338, descriptorIndex := 339, attributes := #[] }, { accessFlags := 4120, nameIndex := 245, descriptorIndex := 246, attributes := #[] }])
  fields := #[{ name := "E", type := .double, accessFlags := 25, slot := 0, constantValue := 0 }, { name := "PI", type := .double, accessFlags := 25, slot := 1, constantValue := 0 }, { name := "TAU", type := .double, accessFlags := 25, slot := 2, constantValue := 0 }, { name := "DEGREES_TO_RADIANS", type := .double, accessFlags := 26, slot := 3, constantValue := 0 }, { name := "RADIANS_TO_DEGREES", type := .double, accessFlags := 26, slot := 4, constantValue := 0 }, { name := "negativeZeroFloatBits", type := .long, accessFlags := 26, slot := 5, constantValue := 0 }, { name := "negativeZeroDoubleBits", type := .long, accessFlags := 26, slot := 6, constantValue := 0 }, { name := "twoToTheDoubleScaleUp", type := .double, accessFlags := 8, slot := 7, constantValue := 0 }, { name := "twoToTheDoubleScaleDown", type := .double, accessFlags := 8, slot := 8, constantValue := 0 }, { name := "$assertionsDisabled", type := .boolean, accessFlags := 4120, slot := 9, constantValue := 0 }]
  methods := #[k10m0, k10m1, k10m2]
  instanceTypes := #[]
  staticTypes := #[.double, .double, .double, .double, .double, .long, .long, .double, .double, .boolean]
  resolved := Array.replicate 460 none
  statics := none }

def pool11 : Array CpInfo := pool [(2, .class_ 4), (1, u "java/lang/Object"), (0, u "<init>"), (0, u "()V"), (17, .class_ 26), (1, u "jdk/internal/util/Preconditions"), (28, .class_ 56), (0, u "jdk/internal/util/Preconditions$4"), (57, .class_ 115), (0, u "jdk/internal/util/Preconditions$1"), (7, u "SIOOBE_FORMATTER"), (0, u "Ljava/util/function/BiFunction;"), (0, .class_ 126), (0, u "jdk/internal/util/Preconditions$2"), (3, u "AIOOBE_FORMATTER"), (0, .class_ 132), (0, u "jdk/internal/util/Preconditions$3"), (3, u "IOOBE_FORMATTER")] 57

def k11m0 : Method := { name := "<init>", desc := "()V", sig := { parameters := [], returnType := none }, accessFlags := 1, code := none }
/-- jdk/internal/util/Preconditions -/
def k11 : Class := { plain "jdk/internal/util/Preconditions" (some 0) with
  accessFlags := 33
  interfaces := #[]
  cf := some (fileOf pool11 24 #[.nestMembers #[55, 131, 125, 114]] #[{ accessFlags := 1, nameIndex := 5, descriptorIndex := 6, attributes := #[] }] 33 2 #[] #[{ accessFlags := 25, nameIndex := 123, descriptorIndex := 124, attributes := #[] }, { accessFlags := 25, nameIndex := 130, descriptorIndex := 124, attributes := #[] }, { accessFlags := 25, nameIndex := 136, descriptorIndex := 124, attributes := #[] }])
  fields := #[{ name := "SIOOBE_FORMATTER", type := (.object "java/util/function/BiFunction"), accessFlags := 25, slot := 0, constantValue := 0 }, { name := "AIOOBE_FORMATTER", type := (.object "java/util/function/BiFunction"), accessFlags := 25, slot := 1, constantValue := 0 }, { name := "IOOBE_FORMATTER", type := (.object "java/util/function/BiFunction"), accessFlags := 25, slot := 2, constantValue := 0 }]
  methods := #[k11m0]
  instanceTypes := #[]
  staticTypes := #[(.object "java/util/function/BiFunction"), (.object "java/util/function/BiFunction"), (.object "java/util/function/BiFunction")]
  resolved := Array.replicate 194 none
  statics := some 1 }

def pool12 : Array CpInfo := pool [(9, u "<init>"), (6, .class_ 18), (1, u "java/lang/Object"), (0, u "()V"), (1, .class_ 23), (1, u "jdk/internal/util/ArraysSupport"), (0, u "LOG2_ARRAY_LONG_INDEX_SCALE"), (0, u "I"), (2, u "U"), (0, u "Ljdk/internal/misc/Unsafe;"), (8, u "BIG_ENDIAN"), (0, u "Z"), (8, u "LOG2_BYTE_BIT_SIZE"), (4, u "LOG2_ARRAY_INT_INDEX_SCALE"), (54, u "JLA"), (0, u "Ljdk/internal/access/JavaLangAccess;"), (11, u "LOG2_ARRAY_BOOLEAN_INDEX_SCALE"), (9, u "LOG2_ARRAY_BYTE_INDEX_SCALE"), (5, u "LOG2_ARRAY_CHAR_INDEX_SCALE"), (5, u "LOG2_ARRAY_SHORT_INDEX_SCALE"), (18, u "LOG2_ARRAY_FLOAT_INDEX_SCALE"), (24, u "LOG2_ARRAY_DOUBLE_INDEX_SCALE"), (89, u "T_BOOLEAN"), (2, u "T_CHAR"), (1, u "T_FLOAT"), (1, u "T_DOUBLE"), (1, u "T_BYTE"), (1, u "T_SHORT"), (1, u "T_INT"), (1, u "T_LONG"), (1, u "SOFT_MAX_ARRAY_LENGTH")] 83

def k12m0 : Method := { name := "<init>", desc := "()V", sig := { parameters := [], returnType := none }, accessFlags := 2, code := none }
/-- jdk/internal/util/ArraysSupport -/
def k12 : Class := { plain "jdk/internal/util/ArraysSupport" (some 0) with
  accessFlags := 33
  interfaces := #[]
  cf := some (fileOf pool12 21 #[] #[{ accessFlags := 2, nameIndex := 9, descriptorIndex := 19, attributes := #[] }] 33 16 #[] #[{ accessFlags := 24, nameIndex := 28, descriptorIndex := 29, attributes := #[] }, { accessFlags := 26, nameIndex := 38, descriptorIndex := 39, attributes := #[] }, { accessFlags := 25, nameIndex := 121, descriptorIndex := 25, attributes := #[] }, { accessFlags := 25, nameIndex := 131, descriptorIndex := 25, attributes := #[] }, { accessFlags := 25, nameIndex := 137, descriptorIndex := 25, attributes := #[] }, { accessFlags := 25, nameIndex := 143, descriptorIndex := 25, attributes := #[] }, { accessFlags := 25, nameIndex := 53, descriptorIndex := 25, attributes := #[] }, { accessFlags := 25, nameIndex := 24, descriptorIndex := 25, attributes := #[] }, { accessFlags := 25, nameIndex := 162, descriptorIndex := 25, attributes := #[] }, { accessFlags := 25, nameIndex := 187, descriptorIndex := 25, attributes := #[] }, { accessFlags := 26, nameIndex := 48, descriptorIndex := 25, attributes := #[] }, { accessFlags := 25, nameIndex := 277, descriptorIndex := 25, attributes := #[] }, { accessFlags := 25, nameIndex := 280, descriptorIndex := 25, attributes := #[] }, { accessFlags := 25, nameIndex := 282, descriptorIndex := 25, attributes := #[] }, { accessFlags := 25, nameIndex := 284, descriptorIndex := 25, attributes := #[] }, { accessFlags := 25, nameIndex := 286, descriptorIndex := 25, attributes := #[] }, { accessFlags := 25, nameIndex := 288, descriptorIndex := 25, attributes := #[] }, { accessFlags := 25, nameIndex := 290, descriptorIndex := 25, attributes := #[] }, { accessFlags := 25, nameIndex := 292, descriptorIndex := 25, attributes := #[] }, { accessFlags := 26, nameIndex := 108, descriptorIndex := 109, attributes := #[] }, { accessFlags := 25, nameIndex := 294, descriptorIndex := 25, attributes := #[] }])
  fields := #[{ name := "U", type := (.object "jdk/internal/misc/Unsafe"), accessFlags := 24, slot := 0, constantValue := 0 }, { name := "BIG_ENDIAN", type := .boolean, accessFlags := 26, slot := 1, constantValue := 0 }, { name := "LOG2_ARRAY_BOOLEAN_INDEX_SCALE", type := .int, accessFlags := 25, slot := 2, constantValue := 0 }, { name := "LOG2_ARRAY_BYTE_INDEX_SCALE", type := .int, accessFlags := 25, slot := 3, constantValue := 0 }, { name := "LOG2_ARRAY_CHAR_INDEX_SCALE", type := .int, accessFlags := 25, slot := 4, constantValue := 0 }, { name := "LOG2_ARRAY_SHORT_INDEX_SCALE", type := .int, accessFlags := 25, slot := 5, constantValue := 0 }, { name := "LOG2_ARRAY_INT_INDEX_SCALE", type := .int, accessFlags := 25, slot := 6, constantValue := 0 }, { name := "LOG2_ARRAY_LONG_INDEX_SCALE", type := .int, accessFlags := 25, slot := 7, constantValue := 0 }, { name := "LOG2_ARRAY_FLOAT_INDEX_SCALE", type := .int, accessFlags := 25, slot := 8, constantValue := 0 }, { name := "LOG2_ARRAY_DOUBLE_INDEX_SCALE", type := .int, accessFlags := 25, slot := 9, constantValue := 0 }, { name := "LOG2_BYTE_BIT_SIZE", type := .int, accessFlags := 26, slot := 10, constantValue := 0 }, { name := "T_BOOLEAN", type := .int, accessFlags := 25, slot := 11, constantValue := 0 }, { name := "T_CHAR", type := .int, accessFlags := 25, slot := 12, constantValue := 0 }, { name := "T_FLOAT", type := .int, accessFlags := 25, slot := 13, constantValue := 0 }, { name := "T_DOUBLE", type := .int, accessFlags := 25, slot := 14, constantValue := 0 }, { name := "T_BYTE", type := .int, accessFlags := 25, slot := 15, constantValue := 0 }, { name := "T_SHORT", type := .int, accessFlags := 25, slot := 16, constantValue := 0 }, { name := "T_INT", type := .int, accessFlags := 25, slot := 17, constantValue := 0 }, { name := "T_LONG", type := .int, accessFlags := 25, slot := 18, constantValue := 0 }, { name := "JLA", type := (.object "jdk/internal/access/JavaLangAccess"), accessFlags := 26, slot := 19, constantValue := 0 }, { name := "SOFT_MAX_ARRAY_LENGTH", type := .int, accessFlags := 25, slot := 20, constantValue := 0 }]
  methods := #[k12m0]
  instanceTypes := #[]
  staticTypes := #[(.object "jdk/internal/misc/Unsafe"), .boolean, .int, .int, .int, .int, .int, .int, .int, .int, .int, .int, .int, .int, .int, .int, .int, .int, .int, (.object "jdk/internal/access/JavaLangAccess"), .int]
  resolved := Array.replicate 378 none
  statics := none }

def pool13 : Array CpInfo := pool [(1, u "java/lang/Cloneable"), (0, .class_ 1), (0, u "java/lang/Object"), (0, .class_ 3)] 3

/-- java/lang/Cloneable -/
def k13 : Class := { plain "java/lang/Cloneable" (some 0) with
  accessFlags := 1537
  interfaces := #[]
  cf := some (fileOf pool13 2 #[] #[] 1537 4 #[] #[])
  fields := #[]
  methods := #[]
  instanceTypes := #[]
  staticTypes := #[]
  resolved := Array.replicate 8 none
  statics := none }

/-- the primitive byte -/
def k14 : Class := { plain "byte" none with kind := .primitive 'B', accessFlags := 0x411 }
/-- [B -/
def k15 : Class := { plain "[B" (some 0) with kind := .array 14 .byte, interfaces := #[13, 3], accessFlags := 1041 }

/-- the primitive int -/
def k16 : Class := { plain "int" none with kind := .primitive 'I', accessFlags := 0x411 }
/-- [I -/
def k17 : Class := { plain "[I" (some 0) with kind := .array 16 .int, interfaces := #[13, 3], accessFlags := 1041 }

def heap : Heap := #[{ cls := 8, slots := #[.long 0, .int 1, .null, .int 0, .null, .int 0, .int 0], vm := .statics 8 },
  { cls := 11, slots := #[.null, .null, .null], vm := .statics 11 }]
def classes : Array Class := #[k0, k1, k2, k3, k4, k5, k6, k7, k8, k9, k10, k11, k12, k13, k14, k15, k16, k17]
def interned : List (Array UInt16 × Addr) := []
def slotsUsed : Nat := 10
def theMethod : MethodId := ⟨1, 2⟩
def args0 : Array Value := #[.int 65, .int 1]
def aboutOver (below : List Frame) : State where
  vm := { classes := classes, interned := interned.toArray }
  heap := heap
  slotsUsed := slotsUsed
  threads := #[{ frames := .invoking theMethod args0 :: below }]
def below0 : List Frame := [.native { method := ⟨0, 0⟩, args := #[] }]
def about1 : State := aboutOver below0
def p0 : Program := .bare "" "" ""
def e0 : Env := launch0.env 0 0 0
theorem w_frames : about1.frames = Frame.invoking theMethod args0 :: below0 := rfl
set_option maxRecDepth 65536 in
theorem w_args : argsFit about1.vm theMethod args0 = true := by decide +kernel
set_option maxRecDepth 65536 in
theorem w_heap : heapFits about1 = true := by decide +kernel
set_option maxRecDepth 65536 in
theorem w_runnable : about1.curStatus? = some .runnable := by decide +kernel
set_option maxRecDepth 65536 in
theorem w_alone : about1.alone = true := by decide +kernel
set_option maxRecDepth 65536 in
theorem w_named : about1.methodNamed? x = some theMethod := by decide +kernel
set_option maxRecDepth 65536 in
theorem w_hears : about1.hears theMethod below0 = true := by decide +kernel
set_option maxRecDepth 65536 in
theorem w_ripe : about1.ripe theMethod args0 below0 = true := by decide +kernel
theorem w_running : about1.status = .running := rfl
set_option maxRecDepth 65536 in
theorem w_room : about1.hasRoom e0.platform room_1 = true :=
  launch0.hasRoom_least _ room_1 (by decide +kernel) (by decide +kernel) (by decide +kernel) (by decide +kernel) (by decide +kernel) (by decide +kernel)
theorem allAtoms_all (ts : List Jvm.Cond) (a : Array Jvm.Value) (st : Jvm.State) : (allAtoms ts).before a st = ts.all (fun c => c.before a st) := by
  induction ts with
  | nil => rfl
  | cons c t ih =>
    show (Jvm.Cond.and c (allAtoms t)).before a st = _
    rw [Jvm.Cond.before_and, ih, List.all_cons]
def words1 : List Jvm.Cond := Jvm.Cond.code x code maxLocals ret :: tables_1
/-- a 'code' word, met by the world's own term for the bytes: nothing is compared byte by byte -/
theorem code_word {y : MethodName} {bytes : ByteArray} {mx : Nat} {rt : Option FieldType} {a : Array Value} {s : State} {m : MethodId} {meth : Method} {c : Code} (h1 : s.methodNamed? y = some m) (h2 : s.vm.method? m = some meth) (h3 : meth.code = some c) (h4 : c.code = bytes)
    (h5 : (c.maxLocals == mx && c.exceptionTable.isEmpty && decide (c.maxStack ≤ mostOperands) && decide (meth.sig.returnType = rt) && !meth.locks && decide (parseMethodDescriptor y.desc = some meth.sig)) = true) : (Jvm.Cond.code y bytes mx rt).before a s = true := by
  simp only [Bool.and_eq_true, beq_iff_eq, Bool.not_eq_true', decide_eq_true_eq] at h5
  obtain ⟨⟨⟨⟨⟨g1, g2⟩, g3⟩, g4⟩, g5⟩, g6⟩ := h5
  simp [Cond.before, Cond.holds, Cond.value, h1, h2, h3, h4, g1, g2, g3, g4, g5, g6]
def isCode : Jvm.Cond → Bool
  | .code _ _ _ _ => true
  | _ => false
theorem all_split {L : List Jvm.Cond} {P : Jvm.Cond → Bool} (h1 : L.all (fun c => isCode c || P c) = true) (h2 : ∀ c ∈ L.filter isCode, P c = true) : L.all P = true := by
  refine List.all_eq_true.mpr fun c hc => ?_
  have h := List.all_eq_true.mp h1 c hc
  rcases Bool.eq_false_or_eq_true (isCode c) with hi | hi
  · exact h2 c (List.mem_filter.mpr ⟨hc, hi⟩)
  · simpa [hi] using h
set_option maxRecDepth 65536 in
theorem w_c0 : (Jvm.Cond.code x code maxLocals ret).before args0 about1 = true := code_word (m := ⟨1, 2⟩) (meth := k1m2) (c := k1c2) (by decide +kernel) rfl rfl rfl (by decide +kernel)
set_option maxRecDepth 65536 in
theorem w_c1 : (Jvm.Cond.code ({ cls := "com/example/guardbee/guardbee/util/HttpSyntax", name := "isTokenCharacter", desc := "(C)Z" } : Jvm.MethodName) prog_137_method_2_code (1 : Nat) (Option.some Jvm.ClassFile.FieldType.boolean)).before args0 about1 = true := code_word (m := ⟨2, 1⟩) (meth := k2m1) (c := k2c1) (by decide +kernel) rfl rfl rfl (by decide +kernel)
set_option maxRecDepth 65536 in
theorem w_c2 : (Jvm.Cond.code ({ cls := "java/lang/String", name := "indexOf", desc := "(I)I" } : Jvm.MethodName) jdk_42_method_79_code (2 : Nat) (Option.some Jvm.ClassFile.FieldType.int)).before args0 about1 = true := code_word (m := ⟨8, 2⟩) (meth := k8m2) (c := k8c2) (by decide +kernel) rfl rfl rfl (by decide +kernel)
set_option maxRecDepth 65536 in
theorem w_c3 : (Jvm.Cond.code ({ cls := "java/lang/String", name := "indexOf", desc := "(II)I" } : Jvm.MethodName) jdk_42_method_80_code (3 : Nat) (Option.some Jvm.ClassFile.FieldType.int)).before args0 about1 = true := code_word (m := ⟨8, 3⟩) (meth := k8m3) (c := k8c3) (by decide +kernel) rfl rfl rfl (by decide +kernel)
set_option maxRecDepth 65536 in
theorem w_c4 : (Jvm.Cond.code ({ cls := "java/lang/String", name := "isLatin1", desc := "()Z" } : Jvm.MethodName) jdk_42_method_154_code (1 : Nat) (Option.some Jvm.ClassFile.FieldType.boolean)).before args0 about1 = true := code_word (m := ⟨8, 5⟩) (meth := k8m5) (c := k8c5) (by decide +kernel) rfl rfl rfl (by decide +kernel)
set_option maxRecDepth 65536 in
theorem w_c5 : (Jvm.Cond.code ({ cls := "java/lang/String", name := "length", desc := "()I" } : Jvm.MethodName) jdk_42_method_54_code (1 : Nat) (Option.some Jvm.ClassFile.FieldType.int)).before args0 about1 = true := code_word (m := ⟨8, 1⟩) (meth := k8m1) (c := k8c1) (by decide +kernel) rfl rfl rfl (by decide +kernel)
set_option maxRecDepth 65536 in
theorem w_c6 : (Jvm.Cond.code ({ cls := "java/lang/String", name := "coder", desc := "()B" } : Jvm.MethodName) jdk_42_method_152_code (1 : Nat) (Option.some Jvm.ClassFile.FieldType.byte)).before args0 about1 = true := code_word (m := ⟨8, 4⟩) (meth := k8m4) (c := k8c4) (by decide +kernel) rfl rfl rfl (by decide +kernel)
set_option maxRecDepth 65536 in
theorem w_c7 : (Jvm.Cond.code ({ cls := "java/lang/StringLatin1", name := "indexOf", desc := "([BIII)I" } : Jvm.MethodName) jdk_43_method_22_code (4 : Nat) (Option.some Jvm.ClassFile.FieldType.int)).before args0 about1 = true := code_word (m := ⟨9, 2⟩) (meth := k9m2) (c := k9c2) (by decide +kernel) rfl rfl rfl (by decide +kernel)
set_option maxRecDepth 65536 in
theorem w_c8 : (Jvm.Cond.code ({ cls := "java/lang/StringLatin1", name := "canEncode", desc := "(I)Z" } : Jvm.MethodName) jdk_43_method_4_code (1 : Nat) (Option.some Jvm.ClassFile.FieldType.boolean)).before args0 about1 = true := code_word (m := ⟨9, 1⟩) (meth := k9m1) (c := k9c1) (by decide +kernel) rfl rfl rfl (by decide +kernel)
set_option maxRecDepth 65536 in
theorem w_c9 : (Jvm.Cond.code ({ cls := "java/lang/Math", name := "max", desc := "(II)I" } : Jvm.MethodName) jdk_29_method_65_code (2 : Nat) (Option.some Jvm.ClassFile.FieldType.int)).before args0 about1 = true := code_word (m := ⟨10, 1⟩) (meth := k10m1) (c := k10c1) (by decide +kernel) rfl rfl rfl (by decide +kernel)
set_option maxRecDepth 65536 in
theorem w_c10 : (Jvm.Cond.code ({ cls := "java/lang/Math", name := "min", desc := "(II)I" } : Jvm.MethodName) jdk_29_method_69_code (2 : Nat) (Option.some Jvm.ClassFile.FieldType.int)).before args0 about1 = true := code_word (m := ⟨10, 2⟩) (meth := k10m2) (c := k10c2) (by decide +kernel) rfl rfl rfl (by decide +kernel)
set_option maxRecDepth 65536 in
theorem w_c11 : (Jvm.Cond.code ({ cls := "java/lang/StringLatin1", name := "indexOfChar", desc := "([BIII)I" } : Jvm.MethodName) jdk_43_method_23_code (6 : Nat) (Option.some Jvm.ClassFile.FieldType.int)).before args0 about1 = true := code_word (m := ⟨9, 3⟩) (meth := k9m3) (c := k9c3) (by decide +kernel) rfl rfl rfl (by decide +kernel)
set_option maxRecDepth 65536 in
theorem w_c12 : (Jvm.Cond.code ({ cls := "com/example/guardbee/guardbee/util/HttpSyntaxIsTokenCharacterPinLaw", name := "isDelimiter", desc := "(C)Z" } : Jvm.MethodName) method_2_code (1 : Nat) (Option.some Jvm.ClassFile.FieldType.boolean)).before args0 about1 = true := code_word (m := ⟨1, 1⟩) (meth := k1m1) (c := k1c1) (by decide +kernel) rfl rfl rfl (by decide +kernel)
def codes1 : List Jvm.Cond := [Jvm.Cond.code x code maxLocals ret, Jvm.Cond.code ({ cls := "com/example/guardbee/guardbee/util/HttpSyntax", name := "isTokenCharacter", desc := "(C)Z" } : Jvm.MethodName) prog_137_method_2_code (1 : Nat) (Option.some Jvm.ClassFile.FieldType.boolean), Jvm.Cond.code ({ cls := "java/lang/String", name := "indexOf", desc := "(I)I" } : Jvm.MethodName) jdk_42_method_79_code (2 : Nat) (Option.some Jvm.ClassFile.FieldType.int), Jvm.Cond.code ({ cls := "java/lang/String", name := "indexOf", desc := "(II)I" } : Jvm.MethodName) jdk_42_method_80_code (3 : Nat) (Option.some Jvm.ClassFile.FieldType.int), Jvm.Cond.code ({ cls := "java/lang/String", name := "isLatin1", desc := "()Z" } : Jvm.MethodName) jdk_42_method_154_code (1 : Nat) (Option.some Jvm.ClassFile.FieldType.boolean), Jvm.Cond.code ({ cls := "java/lang/String", name := "length", desc := "()I" } : Jvm.MethodName) jdk_42_method_54_code (1 : Nat) (Option.some Jvm.ClassFile.FieldType.int), Jvm.Cond.code ({ cls := "java/lang/String", name := "coder", desc := "()B" } : Jvm.MethodName) jdk_42_method_152_code (1 : Nat) (Option.some Jvm.ClassFile.FieldType.byte), Jvm.Cond.code ({ cls := "java/lang/StringLatin1", name := "indexOf", desc := "([BIII)I" } : Jvm.MethodName) jdk_43_method_22_code (4 : Nat) (Option.some Jvm.ClassFile.FieldType.int), Jvm.Cond.code ({ cls := "java/lang/StringLatin1", name := "canEncode", desc := "(I)Z" } : Jvm.MethodName) jdk_43_method_4_code (1 : Nat) (Option.some Jvm.ClassFile.FieldType.boolean), Jvm.Cond.code ({ cls := "java/lang/Math", name := "max", desc := "(II)I" } : Jvm.MethodName) jdk_29_method_65_code (2 : Nat) (Option.some Jvm.ClassFile.FieldType.int), Jvm.Cond.code ({ cls := "java/lang/Math", name := "min", desc := "(II)I" } : Jvm.MethodName) jdk_29_method_69_code (2 : Nat) (Option.some Jvm.ClassFile.FieldType.int), Jvm.Cond.code ({ cls := "java/lang/StringLatin1", name := "indexOfChar", desc := "([BIII)I" } : Jvm.MethodName) jdk_43_method_23_code (6 : Nat) (Option.some Jvm.ClassFile.FieldType.int), Jvm.Cond.code ({ cls := "com/example/guardbee/guardbee/util/HttpSyntaxIsTokenCharacterPinLaw", name := "isDelimiter", desc := "(C)Z" } : Jvm.MethodName) method_2_code (1 : Nat) (Option.some Jvm.ClassFile.FieldType.boolean)]
set_option maxRecDepth 65536 in
theorem codes_eq : words1.filter isCode = codes1 := rfl
theorem w_codes : ∀ c ∈ words1.filter isCode, c.before args0 about1 = true := by
  rw [codes_eq]
  intro c hc
  simp only [codes1, List.mem_cons, List.not_mem_nil, or_false] at hc
  rcases hc with rfl | rfl | rfl | rfl | rfl | rfl | rfl | rfl | rfl | rfl | rfl | rfl | rfl
  · exact w_c0
  · exact w_c1
  · exact w_c2
  · exact w_c3
  · exact w_c4
  · exact w_c5
  · exact w_c6
  · exact w_c7
  · exact w_c8
  · exact w_c9
  · exact w_c10
  · exact w_c11
  · exact w_c12
set_option maxRecDepth 65536 in
theorem w_t1 : (words1.take 24).all (fun c => isCode c || c.before args0 about1) = true := by decide +kernel
set_option maxRecDepth 65536 in
theorem w_t2 : ((words1.drop 24).take 24).all (fun c => isCode c || c.before args0 about1) = true := by decide +kernel
set_option maxRecDepth 65536 in
theorem w_t3 : ((words1.drop 24).drop 24).all (fun c => isCode c || c.before args0 about1) = true := by decide +kernel
theorem w_tables : (allAtoms (Jvm.Cond.code x code maxLocals ret :: tables_1)).before args0 about1 = true := by
  rw [allAtoms_all]
  show words1.all (fun c => c.before args0 about1) = true
  refine all_split ?_ w_codes
  rw [← List.take_append_drop 24 words1, List.all_append, w_t1, ← List.take_append_drop 24 (words1.drop 24), List.all_append, w_t2, w_t3]
  rfl
set_option maxRecDepth 65536 in
theorem w_rest : rest_1_c.before args0 about1 = true := by decide +kernel
set_option maxRecDepth 65536 in
theorem w_case : (Jvm.Cond.and given_1 narrow_1).before args0 about1 = true := by decide +kernel
set_option maxRecDepth 65536 in
theorem w_consts : constsHeld consts_1 about1 := Jvm.Lit.constsHeldB_iff.mp (by decide +kernel)
theorem w_applies : (headSpec (Jvm.Cond.code x code maxLocals ret :: tables_1) room_1).applies x e0.platform about1 = true :=
  (Spec.applies_iff w_frames).mpr ⟨w_running, w_runnable, w_alone, w_named, w_hears, w_ripe, w_room, w_tables⟩
theorem atStart : AtStart classFile x code maxLocals ret World_1 tables_1 room_1 Calls_1 rest_1 Pre_1 launch0 p0 e0 about1 theMethod args0 below0 :=
  ⟨lists_1, trivial, launch0.admits_env _ _ _, launch0.least_env, fairChoices_fair.cas, fairChoices_fair.clock, w_frames, w_args, w_heap, w_applies, ⟨w_consts, trivial⟩, w_rest, w_case⟩
end start1
theorem witness_1 : WitnessClaimed_1 := ⟨start1.p0, start1.e0, start1.about1, start1.theMethod, start1.args0, start1.below0, start1.atStart⟩
end Jvm.Pilot.@@N@@
