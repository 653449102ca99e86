import JvmDerived
import JvmDerived.Pilot.@@N@@Statement
import JvmDerived.Pilot.@@N@@Code
set_option linter.unusedVariables false
set_option linter.unusedSimpArgs false
namespace Jvm.Pilot.@@N@@
open Jvm Jvm.ClassFile Sem Op Lib Jvm.Free Jvm.Stand Jvm.LawKit Jvm.RoadKit Bundle Jvm.Pilot.@@N@@.Jvm.D
/-! ### own kit: a walk in continuation style: Go .. h k n pc Ls st: from heap h, with k cells and n slots made, at pc with locals Ls and stack st, the run comes to its end as F says -/
abbrev Wk : Type := Program × Env × State × MethodId × Array Value × List Frame × Method × Code × Nat
abbrev Wk.p (w : Wk) : Program := w.1
abbrev Wk.e (w : Wk) : Env := w.2.1
abbrev Wk.s (w : Wk) : State := w.2.2.1
abbrev Wk.m (w : Wk) : MethodId := w.2.2.2.1
abbrev Wk.as (w : Wk) : Array Value := w.2.2.2.2.1
abbrev Wk.below (w : Wk) : List Frame := w.2.2.2.2.2.1
abbrev Wk.meth (w : Wk) : Method := w.2.2.2.2.2.2.1
abbrev Wk.c (w : Wk) : Code := w.2.2.2.2.2.2.2.1
abbrev Wk.kk (w : Wk) : Nat := w.2.2.2.2.2.2.2.2
/-- what may be said at the end, of a run that leaves with v -/
def Lv (w : Wk) (R : Room) (n0 : Nat) (Q : Option Value → Heap → Prop) (Y : State → Outcome → Prop) : Prop :=
  ∀ (T : State) (fs : List Frame) (locs : List Loc) (k n : Nat) (v : Option Value), w.s.WarmedH (T.setFrames fs).vm → w.s.sameButNew ({ T.setFrames fs with vm := w.s.vm } : State) locs k n → Fr n0 locs → w.kk ≤ T.heap.size → k ≤ R.cells → n ≤ R.slots → Q v T.heap → Y (T.setFrames fs) (.returned v)
def Nar (w : Wk) (R : Room) (n0 : Nat) (Q : Option Value → Heap → Prop) : State → Outcome → Prop := fun t o => ∃ v L, o = .returned v ∧ (Q v t.heap ∧ Fr n0 L ∧ w.kk ≤ t.heap.size) ∧ FrameEnd w.s o t L R.cells R.slots
theorem Lv.nar (w : Wk) (R : Room) (n0 : Nat) (Q : Option Value → Heap → Prop) : Lv w R n0 Q (Nar w R n0 Q) := fun T fs locs k n v hW hs N hk hc hn hQ => ⟨v, locs, rfl, ⟨hQ, N, hk⟩, ⟨v, rfl⟩, hW, hs.mono hc hn⟩
/-- what stays the same through a body's walk -/
def Cx (w : Wk) (Z : State) (own : String) (bytes : ByteArray) (ml : Nat) (rt : Option FieldType) (nm : String) (R : Room) (n0 : Nat) (Q : Option Value → Heap → Prop) (Y : State → Outcome → Prop) : Prop :=
  w.p.tables.exec = Jvm.exec ∧ w.c.code = bytes ∧ w.c.maxLocals = ml ∧ w.s.vm.findClass own = some w.m.cls ∧ Z.Warmed39 w.s.vm ∧ w.meth.sig.returnType = rt ∧ w.meth.locks = false ∧ w.meth.name = nm ∧ Lv w R n0 Q Y
def Go (w : Wk) (l : Launch) (R : Room) (n0 : Nat) (Y : State → Outcome → Prop) (h : Heap) (k n pc : Nat) (Ls : Array Slot) (st : List Value) : Prop :=
  ∀ (T : State) (locs : List Loc), Stand w.p l w.e R w.s w.m w.as w.below w.meth w.c T locs k n → T.heap = h → n0 ≤ h.size ∧ w.kk ≤ h.size → Fr n0 locs →
    ∃ s₂ o, Steps w.p.tables w.e w.below (T.setTop (mkF w.m pc Ls st)) s₂ ∧ s₂.status = .running ∧ Ended s₂ w.below o ∧ Y s₂ o
def Met (l : Launch) (Z : State) (y : MethodName) (bytes : ByteArray) (ml : Nat) (rt : Option FieldType) (rm : Room) (n0 : Nat) (h0 : Heap) (as' : Array Value) (Q : Option Value → Heap → Prop) : Prop :=
  n0 ≤ h0.size → ∀ ws, MetFree l y (head1 (Jvm.Cond.code y bytes ml rt :: ws) rm) (fun a U => a = as' ∧ Z.Warmed39 U.vm ∧ U.heap = h0) (fun _ _ _ _ _ => True) (fun _ U o U' => ∃ v L, o = .returned v ∧ (Q v U'.heap ∧ Fr n0 L ∧ h0.size ≤ U'.heap.size) ∧ FrameEnd U o U' L rm.cells rm.slots)
section OwnKit
variable {w : Wk} {l : Launch} {R : Room} {Z : State} {a0 : Array Value} {own : String} {bytes : ByteArray} {ml : Nat} {rt : Option FieldType} {nm : String} {n0 : Nat} {Q : Option Value → Heap → Prop} {Y : State → Outcome → Prop} {h : Heap} {k n pc pc' : Nat} {Ls Ls' : Array Slot} {st rest : List Value}
theorem Cx.hx (C : Cx w Z own bytes ml rt nm R n0 Q Y) : w.p.tables.exec = Jvm.exec := C.1
theorem Cx.d (C : Cx w Z own bytes ml rt nm R n0 Q Y) {pc : Nat} {r : Except ClassFile.DecodeError (ClassFile.Instr × Nat)} (hd : decode bytes pc = r) : decode w.c.code pc = r := C.2.1 ▸ hd
theorem Cx.hml (C : Cx w Z own bytes ml rt nm R n0 Q Y) : w.c.maxLocals = ml := C.2.2.1
theorem Cx.hown (C : Cx w Z own bytes ml rt nm R n0 Q Y) : w.s.vm.findClass own = some w.m.cls := C.2.2.2.1
theorem Cx.hZ (C : Cx w Z own bytes ml rt nm R n0 Q Y) : Z.Warmed39 w.s.vm := C.2.2.2.2.1
theorem Cx.ret (C : Cx w Z own bytes ml rt nm R n0 Q Y) : w.meth.sig.returnType = rt := C.2.2.2.2.2.1
theorem Cx.locks (C : Cx w Z own bytes ml rt nm R n0 Q Y) : w.meth.locks = false := C.2.2.2.2.2.2.1
theorem Cx.name (C : Cx w Z own bytes ml rt nm R n0 Q Y) : w.meth.name = nm := C.2.2.2.2.2.2.2.1
theorem Cx.lv (C : Cx w Z own bytes ml rt nm R n0 Q Y) : Lv w R n0 Q Y := C.2.2.2.2.2.2.2.2
theorem Met.intro {y : MethodName} {rm : Room} {h0 : Heap} {as' : Array Value} (hp : plainFor y = true) (hef : ∀ m, entryFrame m as' ml = mkF m 0 Ls [])
    (H : ∀ (w : Wk) (Y : State → Outcome → Prop), Cx w Z y.cls bytes ml rt y.name rm n0 Q Y → Go w l rm n0 Y h0 0 0 0 Ls []) : Met l Z y bytes ml rt rm n0 h0 as' Q := by
  intro hn ws
  refine MetFree.of_bodySF hp hisR ?_
  intro p e s m args below meth c s₁ Bd hml0 hP hK
  obtain ⟨rfl, hZ, hh⟩ := hP
  have X0 : Stand p l e rm s m args below meth c s₁ [] 0 0 := Stand.of_body Bd
  have e0 : s₁.heap = h0 := by rw [← hh, Bd.state]; rfl
  obtain ⟨s₂, o, g1, g2, g3, g4⟩ := H (p, e, s, m, args, below, meth, c, h0.size) _ ⟨Bd.exec, Bd.bytes, hml0, findClass_of_methodNamed Bd.named, hZ, Bd.returns, BodyLoose.notSynchronized Bd, (name_of_methodNamed Bd.named Bd.method).1, Lv.nar _ _ _ _⟩ s₁ [] X0 e0 ⟨hn, Nat.le_refl _⟩ (Fr.nil n0)
  exact ⟨s₂, o, castTop (hef m) g1, g2, g3, g4⟩
theorem Go.plain {st' : List Value} (f : ∀ (T t : State), At T w.m w.c w.below → Steps w.p.tables w.e w.below (T.setTop (mkF w.m pc' Ls' st')) t → Steps w.p.tables w.e w.below (T.setTop (mkF w.m pc Ls st)) t) (G : Go w l R n0 Y h k n pc' Ls' st') : Go w l R n0 Y h k n pc Ls st := by
  intro T locs X hT hn N
  obtain ⟨s₂, o, h1, h2⟩ := G T locs X hT hn N
  exact ⟨s₂, o, f T s₂ X.here h1, h2⟩
theorem Go.stand {st' : List Value} (f : ∀ (T t : State) (locs : List Loc), Stand w.p l w.e R w.s w.m w.as w.below w.meth w.c T locs k n → T.heap = h → Steps w.p.tables w.e w.below (T.setTop (mkF w.m pc' Ls' st')) t → Steps w.p.tables w.e w.below (T.setTop (mkF w.m pc Ls st)) t) (G : Go w l R n0 Y h k n pc' Ls' st') : Go w l R n0 Y h k n pc Ls st := by
  intro T locs X hT hn N
  obtain ⟨s₂, o, h1, h2⟩ := G T locs X hT hn N
  exact ⟨s₂, o, f T s₂ locs X hT h1, h2⟩
theorem Go.size (G : n0 ≤ h.size → Go w l R n0 Y h k n pc Ls st) : Go w l R n0 Y h k n pc Ls st := fun T locs X hT hn N => G hn.1 T locs X hT hn N
theorem own_grow {kk : Nat} {h h' : Heap} (hn : n0 ≤ h.size ∧ kk ≤ h.size) (E : h.size ≤ h'.size) : n0 ≤ h'.size ∧ kk ≤ h'.size := ⟨Nat.le_trans hn.1 E, Nat.le_trans hn.2 E⟩
theorem g_iloadN (C : Cx w Z own bytes ml rt nm R n0 Q Y) {i : Fin 4} {v : Int32} (hd : decode bytes pc = .ok (.iload_n i, 1)) (hp : pc + 1 = pc') (hl : Ls[i.val]? = some (.val (.int v))) (G : Go w l R n0 Y h k n pc' Ls (.int v :: st)) : Go w l R n0 Y h k n pc Ls (st) := by
  subst hp; exact Go.plain (fun T t H K => XS.iloadN H C.hx rfl (C.d hd) hl K) G
theorem g_iload (C : Cx w Z own bytes ml rt nm R n0 Q Y) {i : Nat} {v : Int32} (hd : decode bytes pc = .ok (.iload i, 2)) (hp : pc + 2 = pc') (hl : Ls[i]? = some (.val (.int v))) (G : Go w l R n0 Y h k n pc' Ls (.int v :: st)) : Go w l R n0 Y h k n pc Ls (st) := by
  subst hp; exact Go.plain (fun T t H K => XS.iload H C.hx rfl (C.d hd) hl K) G
theorem g_lloadN (C : Cx w Z own bytes ml rt nm R n0 Q Y) {i : Fin 4} {v : Int64} (hd : decode bytes pc = .ok (.lload_n i, 1)) (hp : pc + 1 = pc') (hl : Ls[i.val]? = some (.val (.long v))) (G : Go w l R n0 Y h k n pc' Ls (.long v :: st)) : Go w l R n0 Y h k n pc Ls (st) := by
  subst hp; exact Go.plain (fun T t H K => XS.lloadN H C.hx rfl (C.d hd) hl K) G
theorem g_lload (C : Cx w Z own bytes ml rt nm R n0 Q Y) {i : Nat} {v : Int64} (hd : decode bytes pc = .ok (.lload i, 2)) (hp : pc + 2 = pc') (hl : Ls[i]? = some (.val (.long v))) (G : Go w l R n0 Y h k n pc' Ls (.long v :: st)) : Go w l R n0 Y h k n pc Ls (st) := by
  subst hp; exact Go.plain (fun T t H K => XS.lload H C.hx rfl (C.d hd) hl K) G
theorem g_aloadN (C : Cx w Z own bytes ml rt nm R n0 Q Y) {i : Fin 4} {v : Value} (hd : decode bytes pc = .ok (.aload_n i, 1)) (hp : pc + 1 = pc') (hl : Ls[i.val]? = some (.val v)) (hv : v.isRef = true) (G : Go w l R n0 Y h k n pc' Ls (v :: st)) : Go w l R n0 Y h k n pc Ls (st) := by
  subst hp; exact Go.plain (fun T t H K => XS.aloadN H C.hx rfl (C.d hd) hl hv K) G
theorem g_aload (C : Cx w Z own bytes ml rt nm R n0 Q Y) {i : Nat} {v : Value} (hd : decode bytes pc = .ok (.aload i, 2)) (hp : pc + 2 = pc') (hl : Ls[i]? = some (.val v)) (hv : v.isRef = true) (G : Go w l R n0 Y h k n pc' Ls (v :: st)) : Go w l R n0 Y h k n pc Ls (st) := by
  subst hp; exact Go.plain (fun T t H K => XS.aload H C.hx rfl (C.d hd) hl hv K) G
theorem g_istoreN (C : Cx w Z own bytes ml rt nm R n0 Q Y) {i : Fin 4} {x : Int32} (hd : decode bytes pc = .ok (.istore_n i, 1)) (hp : pc + 1 = pc') (hl : storeLocals Ls i.val (.int x) = some Ls') (G : Go w l R n0 Y h k n pc' Ls' rest) : Go w l R n0 Y h k n pc Ls (.int x :: rest) := by
  subst hp; exact Go.plain (fun T t H K => XS.istoreN H C.hx rfl (C.d hd) rfl hl K) G
theorem g_istore (C : Cx w Z own bytes ml rt nm R n0 Q Y) {i : Nat} {x : Int32} (hd : decode bytes pc = .ok (.istore i, 2)) (hp : pc + 2 = pc') (hl : storeLocals Ls i (.int x) = some Ls') (G : Go w l R n0 Y h k n pc' Ls' rest) : Go w l R n0 Y h k n pc Ls (.int x :: rest) := by
  subst hp; exact Go.plain (fun T t H K => XS.istore H C.hx rfl (C.d hd) rfl hl K) G
theorem g_lstoreN (C : Cx w Z own bytes ml rt nm R n0 Q Y) {i : Fin 4} {x : Int64} (hd : decode bytes pc = .ok (.lstore_n i, 1)) (hp : pc + 1 = pc') (hl : storeLocals Ls i.val (.long x) = some Ls') (G : Go w l R n0 Y h k n pc' Ls' rest) : Go w l R n0 Y h k n pc Ls (.long x :: rest) := by
  subst hp; exact Go.plain (fun T t H K => XS.lstoreN H C.hx rfl (C.d hd) rfl hl K) G
theorem g_lstore (C : Cx w Z own bytes ml rt nm R n0 Q Y) {i : Nat} {x : Int64} (hd : decode bytes pc = .ok (.lstore i, 2)) (hp : pc + 2 = pc') (hl : storeLocals Ls i (.long x) = some Ls') (G : Go w l R n0 Y h k n pc' Ls' rest) : Go w l R n0 Y h k n pc Ls (.long x :: rest) := by
  subst hp; exact Go.plain (fun T t H K => XS.lstore H C.hx rfl (C.d hd) rfl hl K) G
theorem g_astoreN (C : Cx w Z own bytes ml rt nm R n0 Q Y) {i : Fin 4} {x : Value} (hd : decode bytes pc = .ok (.astore_n i, 1)) (hp : pc + 1 = pc') (hv : x.isRef = true) (hl : storeLocals Ls i.val (x) = some Ls') (G : Go w l R n0 Y h k n pc' Ls' rest) : Go w l R n0 Y h k n pc Ls (x :: rest) := by
  subst hp; exact Go.plain (fun T t H K => XS.astoreN H C.hx rfl (C.d hd) rfl hv hl K) G
theorem g_astore (C : Cx w Z own bytes ml rt nm R n0 Q Y) {i : Nat} {x : Value} (hd : decode bytes pc = .ok (.astore i, 2)) (hp : pc + 2 = pc') (hv : x.isRef = true) (hl : storeLocals Ls i (x) = some Ls') (G : Go w l R n0 Y h k n pc' Ls' rest) : Go w l R n0 Y h k n pc Ls (x :: rest) := by
  subst hp; exact Go.plain (fun T t H K => XS.astore H C.hx rfl (C.d hd) rfl hv hl K) G
theorem g_iconst (C : Cx w Z own bytes ml rt nm R n0 Q Y) {i : Int} {z : Int32} (hd : decode bytes pc = .ok (.iconst i, 1)) (hp : pc + 1 = pc') (hz : Int32.ofInt i = z) (G : Go w l R n0 Y h k n pc' Ls (.int z :: st)) : Go w l R n0 Y h k n pc Ls st := by
  subst hp hz; exact Go.plain (fun T t H K => XS.iconst H C.hx rfl (C.d hd) K) G
theorem g_bipush (C : Cx w Z own bytes ml rt nm R n0 Q Y) {i : Int} {z : Int32} (hd : decode bytes pc = .ok (.bipush i, 2)) (hp : pc + 2 = pc') (hz : (Int8.ofInt i).toInt32 = z) (G : Go w l R n0 Y h k n pc' Ls (.int z :: st)) : Go w l R n0 Y h k n pc Ls st := by
  subst hp hz; exact Go.plain (fun T t H K => XS.bipush H C.hx rfl (C.d hd) K) G
theorem g_sipush (C : Cx w Z own bytes ml rt nm R n0 Q Y) {i : Int} {z : Int32} (hd : decode bytes pc = .ok (.sipush i, 3)) (hp : pc + 3 = pc') (hz : (Int16.ofInt i).toInt32 = z) (G : Go w l R n0 Y h k n pc' Ls (.int z :: st)) : Go w l R n0 Y h k n pc Ls st := by
  subst hp hz; exact Go.plain (fun T t H K => XS.sipush H C.hx rfl (C.d hd) K) G
theorem g_lconst (C : Cx w Z own bytes ml rt nm R n0 Q Y) {i : Fin 2} {z : Int64} (hd : decode bytes pc = .ok (.lconst i, 1)) (hp : pc + 1 = pc') (hz : Int64.ofNat i = z) (G : Go w l R n0 Y h k n pc' Ls (.long z :: st)) : Go w l R n0 Y h k n pc Ls st := by
  subst hp hz; exact Go.plain (fun T t H K => XS.lconst H C.hx rfl (C.d hd) K) G
theorem g_null (C : Cx w Z own bytes ml rt nm R n0 Q Y) (hd : decode bytes pc = .ok (.aconst_null, 1)) (hp : pc + 1 = pc') (G : Go w l R n0 Y h k n pc' Ls (.null :: st)) : Go w l R n0 Y h k n pc Ls (st) := by
  subst hp; exact Go.plain (fun T t H K => XS.aconstNull H C.hx rfl (C.d hd)  K) G
theorem g_iadd (C : Cx w Z own bytes ml rt nm R n0 Q Y) {x y : Int32} (hd : decode bytes pc = .ok (.iadd, 1)) (hp : pc + 1 = pc') (G : Go w l R n0 Y h k n pc' Ls (.int (x + y) :: rest)) : Go w l R n0 Y h k n pc Ls (.int y :: .int x :: rest) := by
  subst hp; exact Go.plain (fun T t H K => XS.iadd H C.hx rfl (C.d hd) rfl K) G
theorem g_isub (C : Cx w Z own bytes ml rt nm R n0 Q Y) {x y : Int32} (hd : decode bytes pc = .ok (.isub, 1)) (hp : pc + 1 = pc') (G : Go w l R n0 Y h k n pc' Ls (.int (x - y) :: rest)) : Go w l R n0 Y h k n pc Ls (.int y :: .int x :: rest) := by
  subst hp; exact Go.plain (fun T t H K => XS.isub H C.hx rfl (C.d hd) rfl K) G
theorem g_imul (C : Cx w Z own bytes ml rt nm R n0 Q Y) {x y : Int32} (hd : decode bytes pc = .ok (.imul, 1)) (hp : pc + 1 = pc') (G : Go w l R n0 Y h k n pc' Ls (.int (x * y) :: rest)) : Go w l R n0 Y h k n pc Ls (.int y :: .int x :: rest) := by
  subst hp; exact Go.plain (fun T t H K => XS.imul H C.hx rfl (C.d hd) rfl K) G
theorem g_iand (C : Cx w Z own bytes ml rt nm R n0 Q Y) {x y : Int32} (hd : decode bytes pc = .ok (.iand, 1)) (hp : pc + 1 = pc') (G : Go w l R n0 Y h k n pc' Ls (.int (x &&& y) :: rest)) : Go w l R n0 Y h k n pc Ls (.int y :: .int x :: rest) := by
  subst hp; exact Go.plain (fun T t H K => XS.iand H C.hx rfl (C.d hd) rfl K) G
theorem g_ior (C : Cx w Z own bytes ml rt nm R n0 Q Y) {x y : Int32} (hd : decode bytes pc = .ok (.ior, 1)) (hp : pc + 1 = pc') (G : Go w l R n0 Y h k n pc' Ls (.int (x ||| y) :: rest)) : Go w l R n0 Y h k n pc Ls (.int y :: .int x :: rest) := by
  subst hp; exact Go.plain (fun T t H K => XS.ior H C.hx rfl (C.d hd) rfl K) G
theorem g_ixor (C : Cx w Z own bytes ml rt nm R n0 Q Y) {x y : Int32} (hd : decode bytes pc = .ok (.ixor, 1)) (hp : pc + 1 = pc') (G : Go w l R n0 Y h k n pc' Ls (.int (x ^^^ y) :: rest)) : Go w l R n0 Y h k n pc Ls (.int y :: .int x :: rest) := by
  subst hp; exact Go.plain (fun T t H K => XS.ixor H C.hx rfl (C.d hd) rfl K) G
theorem g_ishl (C : Cx w Z own bytes ml rt nm R n0 Q Y) {x y : Int32} (hd : decode bytes pc = .ok (.ishl, 1)) (hp : pc + 1 = pc') (G : Go w l R n0 Y h k n pc' Ls (.int (x <<< (y &&& 31)) :: rest)) : Go w l R n0 Y h k n pc Ls (.int y :: .int x :: rest) := by
  subst hp; exact Go.plain (fun T t H K => XS.ishl H C.hx rfl (C.d hd) rfl K) G
theorem g_ishr (C : Cx w Z own bytes ml rt nm R n0 Q Y) {x y : Int32} (hd : decode bytes pc = .ok (.ishr, 1)) (hp : pc + 1 = pc') (G : Go w l R n0 Y h k n pc' Ls (.int (x >>> (y &&& 31)) :: rest)) : Go w l R n0 Y h k n pc Ls (.int y :: .int x :: rest) := by
  subst hp; exact Go.plain (fun T t H K => XS.ishr H C.hx rfl (C.d hd) rfl K) G
theorem g_iushr (C : Cx w Z own bytes ml rt nm R n0 Q Y) {x y : Int32} (hd : decode bytes pc = .ok (.iushr, 1)) (hp : pc + 1 = pc') (G : Go w l R n0 Y h k n pc' Ls (.int ((x.toUInt32 >>> (y &&& 31).toUInt32).toInt32) :: rest)) : Go w l R n0 Y h k n pc Ls (.int y :: .int x :: rest) := by
  subst hp; exact Go.plain (fun T t H K => XS.iushr H C.hx rfl (C.d hd) rfl K) G
theorem g_ladd (C : Cx w Z own bytes ml rt nm R n0 Q Y) {x y : Int64} (hd : decode bytes pc = .ok (.ladd, 1)) (hp : pc + 1 = pc') (G : Go w l R n0 Y h k n pc' Ls (.long (x + y) :: rest)) : Go w l R n0 Y h k n pc Ls (.long y :: .long x :: rest) := by
  subst hp; exact Go.plain (fun T t H K => XS.ladd H C.hx rfl (C.d hd) rfl K) G
theorem g_lsub (C : Cx w Z own bytes ml rt nm R n0 Q Y) {x y : Int64} (hd : decode bytes pc = .ok (.lsub, 1)) (hp : pc + 1 = pc') (G : Go w l R n0 Y h k n pc' Ls (.long (x - y) :: rest)) : Go w l R n0 Y h k n pc Ls (.long y :: .long x :: rest) := by
  subst hp; exact Go.plain (fun T t H K => XS.lsub H C.hx rfl (C.d hd) rfl K) G
theorem g_lmul (C : Cx w Z own bytes ml rt nm R n0 Q Y) {x y : Int64} (hd : decode bytes pc = .ok (.lmul, 1)) (hp : pc + 1 = pc') (G : Go w l R n0 Y h k n pc' Ls (.long (x * y) :: rest)) : Go w l R n0 Y h k n pc Ls (.long y :: .long x :: rest) := by
  subst hp; exact Go.plain (fun T t H K => XS.lmul H C.hx rfl (C.d hd) rfl K) G
theorem g_land (C : Cx w Z own bytes ml rt nm R n0 Q Y) {x y : Int64} (hd : decode bytes pc = .ok (.land, 1)) (hp : pc + 1 = pc') (G : Go w l R n0 Y h k n pc' Ls (.long (x &&& y) :: rest)) : Go w l R n0 Y h k n pc Ls (.long y :: .long x :: rest) := by
  subst hp; exact Go.plain (fun T t H K => XS.land H C.hx rfl (C.d hd) rfl K) G
theorem g_lor (C : Cx w Z own bytes ml rt nm R n0 Q Y) {x y : Int64} (hd : decode bytes pc = .ok (.lor, 1)) (hp : pc + 1 = pc') (G : Go w l R n0 Y h k n pc' Ls (.long (x ||| y) :: rest)) : Go w l R n0 Y h k n pc Ls (.long y :: .long x :: rest) := by
  subst hp; exact Go.plain (fun T t H K => XS.lor H C.hx rfl (C.d hd) rfl K) G
theorem g_lxor (C : Cx w Z own bytes ml rt nm R n0 Q Y) {x y : Int64} (hd : decode bytes pc = .ok (.lxor, 1)) (hp : pc + 1 = pc') (G : Go w l R n0 Y h k n pc' Ls (.long (x ^^^ y) :: rest)) : Go w l R n0 Y h k n pc Ls (.long y :: .long x :: rest) := by
  subst hp; exact Go.plain (fun T t H K => XS.lxor H C.hx rfl (C.d hd) rfl K) G
theorem g_lshl (C : Cx w Z own bytes ml rt nm R n0 Q Y) {x : Int64} {y : Int32} (hd : decode bytes pc = .ok (.lshl, 1)) (hp : pc + 1 = pc') (G : Go w l R n0 Y h k n pc' Ls (.long (x <<< (y &&& 0x3f).toInt64) :: rest)) : Go w l R n0 Y h k n pc Ls (.int y :: .long x :: rest) := by
  subst hp; exact Go.plain (fun T t H K => XS.lshl H C.hx rfl (C.d hd) rfl K) G
theorem g_lshr (C : Cx w Z own bytes ml rt nm R n0 Q Y) {x : Int64} {y : Int32} (hd : decode bytes pc = .ok (.lshr, 1)) (hp : pc + 1 = pc') (G : Go w l R n0 Y h k n pc' Ls (.long (x >>> (y &&& 0x3f).toInt64) :: rest)) : Go w l R n0 Y h k n pc Ls (.int y :: .long x :: rest) := by
  subst hp; exact Go.plain (fun T t H K => XS.lshr H C.hx rfl (C.d hd) rfl K) G
theorem g_lushr (C : Cx w Z own bytes ml rt nm R n0 Q Y) {x : Int64} {y : Int32} (hd : decode bytes pc = .ok (.lushr, 1)) (hp : pc + 1 = pc') (G : Go w l R n0 Y h k n pc' Ls (.long ((x.toUInt64 >>> (y &&& 0x3f).toInt64.toUInt64).toInt64) :: rest)) : Go w l R n0 Y h k n pc Ls (.int y :: .long x :: rest) := by
  subst hp; exact Go.plain (fun T t H K => XS.lushr H C.hx rfl (C.d hd) rfl K) G
theorem g_idiv (C : Cx w Z own bytes ml rt nm R n0 Q Y) {x y : Int32} (hd : decode bytes pc = .ok (.idiv, 1)) (hp : pc + 1 = pc') (hy : y ≠ 0) (G : Go w l R n0 Y h k n pc' Ls (.int (x / y) :: rest)) : Go w l R n0 Y h k n pc Ls (.int y :: .int x :: rest) := by
  subst hp; exact Go.plain (fun T t H K => XS.idiv H C.hx rfl (C.d hd) rfl hy K) G
theorem g_irem (C : Cx w Z own bytes ml rt nm R n0 Q Y) {x y : Int32} (hd : decode bytes pc = .ok (.irem, 1)) (hp : pc + 1 = pc') (hy : y ≠ 0) (G : Go w l R n0 Y h k n pc' Ls (.int (x % y) :: rest)) : Go w l R n0 Y h k n pc Ls (.int y :: .int x :: rest) := by
  subst hp; exact Go.stand (fun T t locs X hT K => iremM X C.hx rfl (C.d hd) rfl hy K) G
theorem g_lcmp (C : Cx w Z own bytes ml rt nm R n0 Q Y) {x y : Int64} (hd : decode bytes pc = .ok (.lcmp, 1)) (hp : pc + 1 = pc') (G : Go w l R n0 Y h k n pc' Ls (.int (lcmpW x y) :: rest)) : Go w l R n0 Y h k n pc Ls (.long y :: .long x :: rest) := by
  subst hp; exact Go.plain (fun T t H K => XS.lcmp H C.hx rfl (C.d hd) rfl K) G
theorem g_ineg (C : Cx w Z own bytes ml rt nm R n0 Q Y) {v : Int32} (hd : decode bytes pc = .ok (.ineg, 1)) (hp : pc + 1 = pc') (G : Go w l R n0 Y h k n pc' Ls (.int (-v) :: rest)) : Go w l R n0 Y h k n pc Ls (.int v :: rest) := by
  subst hp; exact Go.plain (fun T t H K => XS.ineg H C.hx rfl (C.d hd) rfl K) G
theorem g_lneg (C : Cx w Z own bytes ml rt nm R n0 Q Y) {v : Int64} (hd : decode bytes pc = .ok (.lneg, 1)) (hp : pc + 1 = pc') (G : Go w l R n0 Y h k n pc' Ls (.long (-v) :: rest)) : Go w l R n0 Y h k n pc Ls (.long v :: rest) := by
  subst hp; exact Go.plain (fun T t H K => XS.lneg H C.hx rfl (C.d hd) rfl K) G
theorem g_i2l (C : Cx w Z own bytes ml rt nm R n0 Q Y) {v : Int32} (hd : decode bytes pc = .ok (.i2l, 1)) (hp : pc + 1 = pc') (G : Go w l R n0 Y h k n pc' Ls (.long (v.toInt64) :: rest)) : Go w l R n0 Y h k n pc Ls (.int v :: rest) := by
  subst hp; exact Go.plain (fun T t H K => XS.i2l H C.hx rfl (C.d hd) rfl K) G
theorem g_l2i (C : Cx w Z own bytes ml rt nm R n0 Q Y) {v : Int64} (hd : decode bytes pc = .ok (.l2i, 1)) (hp : pc + 1 = pc') (G : Go w l R n0 Y h k n pc' Ls (.int (v.toInt32) :: rest)) : Go w l R n0 Y h k n pc Ls (.long v :: rest) := by
  subst hp; exact Go.plain (fun T t H K => XS.l2i H C.hx rfl (C.d hd) rfl K) G
theorem g_i2b (C : Cx w Z own bytes ml rt nm R n0 Q Y) {v : Int32} (hd : decode bytes pc = .ok (.i2b, 1)) (hp : pc + 1 = pc') (G : Go w l R n0 Y h k n pc' Ls (.int (v.toInt8.toInt32) :: rest)) : Go w l R n0 Y h k n pc Ls (.int v :: rest) := by
  subst hp; exact Go.plain (fun T t H K => XS.i2b H C.hx rfl (C.d hd) rfl K) G
theorem g_i2s (C : Cx w Z own bytes ml rt nm R n0 Q Y) {v : Int32} (hd : decode bytes pc = .ok (.i2s, 1)) (hp : pc + 1 = pc') (G : Go w l R n0 Y h k n pc' Ls (.int (v.toInt16.toInt32) :: rest)) : Go w l R n0 Y h k n pc Ls (.int v :: rest) := by
  subst hp; exact Go.plain (fun T t H K => XS.i2s H C.hx rfl (C.d hd) rfl K) G
theorem g_i2c (C : Cx w Z own bytes ml rt nm R n0 Q Y) {v : Int32} (hd : decode bytes pc = .ok (.i2c, 1)) (hp : pc + 1 = pc') (G : Go w l R n0 Y h k n pc' Ls (.int (v.toUInt32.toUInt16.toUInt32.toInt32) :: rest)) : Go w l R n0 Y h k n pc Ls (.int v :: rest) := by
  subst hp; exact Go.plain (fun T t H K => XS.i2c H C.hx rfl (C.d hd) rfl K) G
theorem g_dup (C : Cx w Z own bytes ml rt nm R n0 Q Y) {x : Value} (hd : decode bytes pc = .ok (.dup, 1)) (hp : pc + 1 = pc') (hc : x.category = 1) (G : Go w l R n0 Y h k n pc' Ls (x :: x :: rest)) : Go w l R n0 Y h k n pc Ls (x :: rest) := by
  subst hp; exact Go.plain (fun T t H K => XS.dup H C.hx rfl (C.d hd) rfl hc K) G
theorem g_dupX1 (C : Cx w Z own bytes ml rt nm R n0 Q Y) {x y : Value} (hd : decode bytes pc = .ok (.dup_x1, 1)) (hp : pc + 1 = pc') (hc : x.category = 1) (hc2 : y.category = 1) (G : Go w l R n0 Y h k n pc' Ls (x :: y :: x :: rest)) : Go w l R n0 Y h k n pc Ls (x :: y :: rest) := by
  subst hp; exact Go.plain (fun T t H K => XS.dupX1 H C.hx rfl (C.d hd) rfl hc hc2 K) G
theorem g_pop (C : Cx w Z own bytes ml rt nm R n0 Q Y) {x : Value} (hd : decode bytes pc = .ok (.pop, 1)) (hp : pc + 1 = pc') (hc : x.category = 1) (G : Go w l R n0 Y h k n pc' Ls (rest)) : Go w l R n0 Y h k n pc Ls (x :: rest) := by
  subst hp; exact Go.plain (fun T t H K => XS.pop H C.hx rfl (C.d hd) rfl hc K) G
theorem g_iinc (C : Cx w Z own bytes ml rt nm R n0 Q Y) {i : Nat} {d : Int} {x : Int32} (hd : decode bytes pc = .ok (.iinc i d, 3)) (hp : pc + 3 = pc') (hl : Ls[i]? = some (.val (.int x))) {z : Int32} (hz : x + Int32.ofInt d = z) (hl' : storeLocals Ls i (.int z) = some Ls') (G : Go w l R n0 Y h k n pc' Ls' st) : Go w l R n0 Y h k n pc Ls st := by
  subst hp hz; exact Go.plain (fun T t H K => XS.iinc H C.hx rfl (C.d hd) hl hl' K) G
theorem g_goto (C : Cx w Z own bytes ml rt nm R n0 Q Y) {o : Int} (hd : decode bytes pc = .ok (.goto o, 3)) (ho : 0 ≤ (pc : Int) + o) (hp : ((pc : Int) + o).toNat = pc') (G : Go w l R n0 Y h k n pc' Ls st) : Go w l R n0 Y h k n pc Ls st :=
  Go.plain (fun T t H K => XS.goto H C.hx rfl (pc0 := pc) rfl (C.d hd) ho hp K) G
theorem g_icmp_lt (C : Cx w Z own bytes ml rt nm R n0 Q Y) {o : Int} {x y : Int32} {pcN : Nat} (hd : decode bytes pc = .ok (.if_icmp .lt o, 3)) (ho : 0 ≤ (pc : Int) + o) (hp : ((pc : Int) + o).toNat = pc') (hq : pc + 3 = pcN) (G : x < y → Go w l R n0 Y h k n pc' Ls rest) (G' : ¬ x < y → Go w l R n0 Y h k n pcN Ls rest) : Go w l R n0 Y h k n pc Ls (.int y :: .int x :: rest) := by
  subst hq
  by_cases q : x < y
  · exact Go.plain (fun T t H K => XS.icmpYes H C.hx rfl (pc0 := pc) rfl (C.d hd) rfl (tlt q).1 ho hp K) (G q)
  · exact Go.plain (fun T t H K => XS.icmpNo H C.hx rfl (C.d hd) rfl (flt q).1 K) (G' q)
theorem g_if_lt (C : Cx w Z own bytes ml rt nm R n0 Q Y) {o : Int} {x : Int32} {pcN : Nat} (hd : decode bytes pc = .ok (.ifCond .lt o, 3)) (ho : 0 ≤ (pc : Int) + o) (hp : ((pc : Int) + o).toNat = pc') (hq : pc + 3 = pcN) (G : x < 0 → Go w l R n0 Y h k n pc' Ls rest) (G' : ¬ x < 0 → Go w l R n0 Y h k n pcN Ls rest) : Go w l R n0 Y h k n pc Ls (.int x :: rest) := by
  subst hq
  by_cases q : x < 0
  · exact Go.plain (fun T t H K => XS.ifYes H C.hx rfl (pc0 := pc) rfl (C.d hd) rfl ((if0 _ _).trans (tlt q).1) ho hp K) (G q)
  · exact Go.plain (fun T t H K => XS.ifNo H C.hx rfl (C.d hd) rfl ((if0 _ _).trans (flt q).1) K) (G' q)
theorem g_icmp_ge (C : Cx w Z own bytes ml rt nm R n0 Q Y) {o : Int} {x y : Int32} {pcN : Nat} (hd : decode bytes pc = .ok (.if_icmp .ge o, 3)) (ho : 0 ≤ (pc : Int) + o) (hp : ((pc : Int) + o).toNat = pc') (hq : pc + 3 = pcN) (G : ¬ x < y → Go w l R n0 Y h k n pc' Ls rest) (G' : x < y → Go w l R n0 Y h k n pcN Ls rest) : Go w l R n0 Y h k n pc Ls (.int y :: .int x :: rest) := by
  subst hq
  by_cases q : x < y
  · exact Go.plain (fun T t H K => XS.icmpNo H C.hx rfl (C.d hd) rfl (tlt q).2.1 K) (G' q)
  · exact Go.plain (fun T t H K => XS.icmpYes H C.hx rfl (pc0 := pc) rfl (C.d hd) rfl (flt q).2.1 ho hp K) (G q)
theorem g_if_ge (C : Cx w Z own bytes ml rt nm R n0 Q Y) {o : Int} {x : Int32} {pcN : Nat} (hd : decode bytes pc = .ok (.ifCond .ge o, 3)) (ho : 0 ≤ (pc : Int) + o) (hp : ((pc : Int) + o).toNat = pc') (hq : pc + 3 = pcN) (G : ¬ x < 0 → Go w l R n0 Y h k n pc' Ls rest) (G' : x < 0 → Go w l R n0 Y h k n pcN Ls rest) : Go w l R n0 Y h k n pc Ls (.int x :: rest) := by
  subst hq
  by_cases q : x < 0
  · exact Go.plain (fun T t H K => XS.ifNo H C.hx rfl (C.d hd) rfl ((if0 _ _).trans (tlt q).2.1) K) (G' q)
  · exact Go.plain (fun T t H K => XS.ifYes H C.hx rfl (pc0 := pc) rfl (C.d hd) rfl ((if0 _ _).trans (flt q).2.1) ho hp K) (G q)
theorem g_icmp_gt (C : Cx w Z own bytes ml rt nm R n0 Q Y) {o : Int} {x y : Int32} {pcN : Nat} (hd : decode bytes pc = .ok (.if_icmp .gt o, 3)) (ho : 0 ≤ (pc : Int) + o) (hp : ((pc : Int) + o).toNat = pc') (hq : pc + 3 = pcN) (G : y < x → Go w l R n0 Y h k n pc' Ls rest) (G' : ¬ y < x → Go w l R n0 Y h k n pcN Ls rest) : Go w l R n0 Y h k n pc Ls (.int y :: .int x :: rest) := by
  subst hq
  by_cases q : y < x
  · exact Go.plain (fun T t H K => XS.icmpYes H C.hx rfl (pc0 := pc) rfl (C.d hd) rfl (tlt q).2.2.1 ho hp K) (G q)
  · exact Go.plain (fun T t H K => XS.icmpNo H C.hx rfl (C.d hd) rfl (flt q).2.2.1 K) (G' q)
theorem g_if_gt (C : Cx w Z own bytes ml rt nm R n0 Q Y) {o : Int} {x : Int32} {pcN : Nat} (hd : decode bytes pc = .ok (.ifCond .gt o, 3)) (ho : 0 ≤ (pc : Int) + o) (hp : ((pc : Int) + o).toNat = pc') (hq : pc + 3 = pcN) (G : 0 < x → Go w l R n0 Y h k n pc' Ls rest) (G' : ¬ 0 < x → Go w l R n0 Y h k n pcN Ls rest) : Go w l R n0 Y h k n pc Ls (.int x :: rest) := by
  subst hq
  by_cases q : 0 < x
  · exact Go.plain (fun T t H K => XS.ifYes H C.hx rfl (pc0 := pc) rfl (C.d hd) rfl ((if0 _ _).trans (tlt q).2.2.1) ho hp K) (G q)
  · exact Go.plain (fun T t H K => XS.ifNo H C.hx rfl (C.d hd) rfl ((if0 _ _).trans (flt q).2.2.1) K) (G' q)
theorem g_icmp_le (C : Cx w Z own bytes ml rt nm R n0 Q Y) {o : Int} {x y : Int32} {pcN : Nat} (hd : decode bytes pc = .ok (.if_icmp .le o, 3)) (ho : 0 ≤ (pc : Int) + o) (hp : ((pc : Int) + o).toNat = pc') (hq : pc + 3 = pcN) (G : ¬ y < x → Go w l R n0 Y h k n pc' Ls rest) (G' : y < x → Go w l R n0 Y h k n pcN Ls rest) : Go w l R n0 Y h k n pc Ls (.int y :: .int x :: rest) := by
  subst hq
  by_cases q : y < x
  · exact Go.plain (fun T t H K => XS.icmpNo H C.hx rfl (C.d hd) rfl (tlt q).2.2.2 K) (G' q)
  · exact Go.plain (fun T t H K => XS.icmpYes H C.hx rfl (pc0 := pc) rfl (C.d hd) rfl (flt q).2.2.2 ho hp K) (G q)
theorem g_if_le (C : Cx w Z own bytes ml rt nm R n0 Q Y) {o : Int} {x : Int32} {pcN : Nat} (hd : decode bytes pc = .ok (.ifCond .le o, 3)) (ho : 0 ≤ (pc : Int) + o) (hp : ((pc : Int) + o).toNat = pc') (hq : pc + 3 = pcN) (G : ¬ 0 < x → Go w l R n0 Y h k n pc' Ls rest) (G' : 0 < x → Go w l R n0 Y h k n pcN Ls rest) : Go w l R n0 Y h k n pc Ls (.int x :: rest) := by
  subst hq
  by_cases q : 0 < x
  · exact Go.plain (fun T t H K => XS.ifNo H C.hx rfl (C.d hd) rfl ((if0 _ _).trans (tlt q).2.2.2) K) (G' q)
  · exact Go.plain (fun T t H K => XS.ifYes H C.hx rfl (pc0 := pc) rfl (C.d hd) rfl ((if0 _ _).trans (flt q).2.2.2) ho hp K) (G q)
theorem g_icmp_eq (C : Cx w Z own bytes ml rt nm R n0 Q Y) {o : Int} {x y : Int32} {pcN : Nat} (hd : decode bytes pc = .ok (.if_icmp .eq o, 3)) (ho : 0 ≤ (pc : Int) + o) (hp : ((pc : Int) + o).toNat = pc') (hq : pc + 3 = pcN) (G : x = y → Go w l R n0 Y h k n pc' Ls rest) (G' : ¬ x = y → Go w l R n0 Y h k n pcN Ls rest) : Go w l R n0 Y h k n pc Ls (.int y :: .int x :: rest) := by
  subst hq
  by_cases q : x = y
  · exact Go.plain (fun T t H K => XS.icmpYes H C.hx rfl (pc0 := pc) rfl (C.d hd) rfl (teq q).1 ho hp K) (G q)
  · exact Go.plain (fun T t H K => XS.icmpNo H C.hx rfl (C.d hd) rfl (feq q).1 K) (G' q)
theorem g_if_eq (C : Cx w Z own bytes ml rt nm R n0 Q Y) {o : Int} {x : Int32} {pcN : Nat} (hd : decode bytes pc = .ok (.ifCond .eq o, 3)) (ho : 0 ≤ (pc : Int) + o) (hp : ((pc : Int) + o).toNat = pc') (hq : pc + 3 = pcN) (G : x = 0 → Go w l R n0 Y h k n pc' Ls rest) (G' : ¬ x = 0 → Go w l R n0 Y h k n pcN Ls rest) : Go w l R n0 Y h k n pc Ls (.int x :: rest) := by
  subst hq
  by_cases q : x = 0
  · exact Go.plain (fun T t H K => XS.ifYes H C.hx rfl (pc0 := pc) rfl (C.d hd) rfl ((if0 _ _).trans (teq q).1) ho hp K) (G q)
  · exact Go.plain (fun T t H K => XS.ifNo H C.hx rfl (C.d hd) rfl ((if0 _ _).trans (feq q).1) K) (G' q)
theorem g_icmp_ne (C : Cx w Z own bytes ml rt nm R n0 Q Y) {o : Int} {x y : Int32} {pcN : Nat} (hd : decode bytes pc = .ok (.if_icmp .ne o, 3)) (ho : 0 ≤ (pc : Int) + o) (hp : ((pc : Int) + o).toNat = pc') (hq : pc + 3 = pcN) (G : ¬ x = y → Go w l R n0 Y h k n pc' Ls rest) (G' : x = y → Go w l R n0 Y h k n pcN Ls rest) : Go w l R n0 Y h k n pc Ls (.int y :: .int x :: rest) := by
  subst hq
  by_cases q : x = y
  · exact Go.plain (fun T t H K => XS.icmpNo H C.hx rfl (C.d hd) rfl (teq q).2 K) (G' q)
  · exact Go.plain (fun T t H K => XS.icmpYes H C.hx rfl (pc0 := pc) rfl (C.d hd) rfl (feq q).2 ho hp K) (G q)
theorem g_if_ne (C : Cx w Z own bytes ml rt nm R n0 Q Y) {o : Int} {x : Int32} {pcN : Nat} (hd : decode bytes pc = .ok (.ifCond .ne o, 3)) (ho : 0 ≤ (pc : Int) + o) (hp : ((pc : Int) + o).toNat = pc') (hq : pc + 3 = pcN) (G : ¬ x = 0 → Go w l R n0 Y h k n pc' Ls rest) (G' : x = 0 → Go w l R n0 Y h k n pcN Ls rest) : Go w l R n0 Y h k n pc Ls (.int x :: rest) := by
  subst hq
  by_cases q : x = 0
  · exact Go.plain (fun T t H K => XS.ifNo H C.hx rfl (C.d hd) rfl ((if0 _ _).trans (teq q).2) K) (G' q)
  · exact Go.plain (fun T t H K => XS.ifYes H C.hx rfl (pc0 := pc) rfl (C.d hd) rfl ((if0 _ _).trans (feq q).2) ho hp K) (G q)
theorem g_ifnullY (C : Cx w Z own bytes ml rt nm R n0 Q Y) {o : Int} (hd : decode bytes pc = .ok (.ifnull o, 3)) (ho : 0 ≤ (pc : Int) + o) (hp : ((pc : Int) + o).toNat = pc') (G : Go w l R n0 Y h k n pc' Ls rest) : Go w l R n0 Y h k n pc Ls (.null :: rest) := Go.plain (fun T t H K => XS.ifnullYes H C.hx rfl (pc0 := pc) rfl (C.d hd) rfl ho hp K) G
theorem g_ifnullN (C : Cx w Z own bytes ml rt nm R n0 Q Y) {o : Int} {b : Addr} (hd : decode bytes pc = .ok (.ifnull o, 3)) (hp : pc + 3 = pc') (G : Go w l R n0 Y h k n pc' Ls rest) : Go w l R n0 Y h k n pc Ls (.ref b :: rest) := by subst hp; exact Go.plain (fun T t H K => XS.ifnullNo H C.hx rfl (C.d hd) rfl K) G
theorem g_ifnonnullY (C : Cx w Z own bytes ml rt nm R n0 Q Y) {o : Int} {b : Addr} (hd : decode bytes pc = .ok (.ifnonnull o, 3)) (ho : 0 ≤ (pc : Int) + o) (hp : ((pc : Int) + o).toNat = pc') (G : Go w l R n0 Y h k n pc' Ls rest) : Go w l R n0 Y h k n pc Ls (.ref b :: rest) := Go.plain (fun T t H K => XS.ifnonnullYes H C.hx rfl (pc0 := pc) rfl (C.d hd) rfl ho hp K) G
theorem g_ifnonnullN (C : Cx w Z own bytes ml rt nm R n0 Q Y) {o : Int} (hd : decode bytes pc = .ok (.ifnonnull o, 3)) (hp : pc + 3 = pc') (G : Go w l R n0 Y h k n pc' Ls rest) : Go w l R n0 Y h k n pc Ls (.null :: rest) := by subst hp; exact Go.plain (fun T t H K => XS.ifnonnullNo H C.hx rfl (C.d hd) rfl K) G
theorem g_acmp (C : Cx w Z own bytes ml rt nm R n0 Q Y) {cd : ACond} {o : Int} {x y : Value} (h1 : x.isRef = true) (h2 : y.isRef = true) (same : Bool) (hd : decode bytes pc = .ok (.if_acmp cd o, 3)) (ho : 0 ≤ (pc : Int) + o) (hs : decide (x = y) = same) (hp : pc' = if acV cd same = true then ((pc : Int) + o).toNat else pc + 3) (G : Go w l R n0 Y h k n pc' Ls rest) : Go w l R n0 Y h k n pc Ls (y :: x :: rest) :=
  Go.stand (fun T t locs X hT K => Jvm.RoadKit.acmp (g := mkF w.m pc Ls (y :: x :: rest)) X C.hx rfl h1 h2 (pc0 := pc) rfl (C.d hd) rfl hs ho hp K) G
theorem g_ldcI (C : Cx w Z own bytes ml rt nm R n0 Q Y) {i : Nat} {v : Int32} (w1 : (Jvm.Cond.constant own i v).before a0 Z = true) (hd : decode bytes pc = .ok (.ldc i, 2)) (hp : pc + 2 = pc') (G : Go w l R n0 Y h k n pc' Ls (.int v :: st)) : Go w l R n0 Y h k n pc Ls st := by
  subst hp; exact Go.stand (fun T t locs X hT K => X.ldcInt C.hx C.hown (mvT C.hZ w1) (g := mkF w.m pc Ls st) rfl (C.d hd) _ K) G
theorem g_ldc2J (C : Cx w Z own bytes ml rt nm R n0 Q Y) {i : Nat} {v : Int64} (w1 : (Jvm.Cond.constantLong own i v).before a0 Z = true) (hd : decode bytes pc = .ok (.ldc2_w i, 3)) (hp : pc + 3 = pc') (G : Go w l R n0 Y h k n pc' Ls (.long v :: st)) : Go w l R n0 Y h k n pc Ls st := by
  subst hp; exact Go.stand (fun T t locs X hT K => X.ldc2Long C.hx C.hown (mvT C.hZ w1) (g := mkF w.m pc Ls st) rfl (C.d hd) _ K) G
theorem Go.leave {v : Option Value} (L : Lv w R n0 Q Y) (hv : w.meth.sig.returnType = none → v = none) (hlk : w.meth.locks = false) (hQ : Q v h) (hc : k ≤ R.cells) (hs : n ≤ R.slots)
    (f : ∀ (T : State) (locs : List Loc) (fs : List Frame), Stand w.p l w.e R w.s w.m w.as w.below w.meth w.c T locs k n → (∀ (f : JFrame) (acts : List Action), f.method = w.m → f.locked = none → f.entered = [] → (doReturn w.e (T.setTop f) acts v).1 = T.setFrames fs) → Steps w.p.tables w.e w.below (T.setTop (mkF w.m pc Ls st)) (T.setFrames fs)) : Go w l R n0 Y h k n pc Ls st := by
  intro T locs X hT hn N
  obtain ⟨fs, hr, hrun, hended, hW, hsame⟩ := X.leave (v := v) hv hlk
  exact ⟨_, _, f T locs fs X hr, hrun, hended, L T fs locs k n v hW hsame N (by rw [hT]; exact hn.2) hc hs (by rw [hT]; exact hQ)⟩
theorem g_ret (C : Cx w Z own bytes ml rt nm R n0 Q Y) (hr : rt = none) (hd : decode bytes pc = .ok (.return_, 1)) (hQ : Q none h) (hc : k ≤ R.cells) (hs : n ≤ R.slots) : Go w l R n0 Y h k n pc Ls [] :=
  Go.leave C.lv (v := none) (fun _ => rfl) C.locks hQ hc hs (fun T locs fs X hl => X.returnOut C.hx (C.ret.trans hr) (C.d hd) hl)
theorem g_retI (C : Cx w Z own bytes ml rt nm R n0 Q Y) (hr : rt = some .int) (hd : decode bytes pc = .ok (.ireturn, 1)) {z : Int32} (hQ : Q (some (.int z)) h) (hc : k ≤ R.cells) (hs : n ≤ R.slots) : Go w l R n0 Y h k n pc Ls [.int z] :=
  Go.leave C.lv (v := some (.int z)) (fun q => by rw [C.ret, hr] at q; cases q) C.locks hQ hc hs (fun T locs fs X hl => X.ireturnOut C.hx (t := .int) (C.ret.trans hr) rfl (Or.inl rfl) (C.d hd) hl)
theorem g_retN (C : Cx w Z own bytes ml rt nm R n0 Q Y) {t : FieldType} (hr : rt = some t) (ht : t = .boolean ∨ t = .byte ∨ t = .char ∨ t = .short) (hd : decode bytes pc = .ok (.ireturn, 1)) {z : Int32} (hQ : Q (some (.int (nar t z))) h) (hc : k ≤ R.cells) (hs : n ≤ R.slots) : Go w l R n0 Y h k n pc Ls (.int z :: rest) :=
  Go.leave C.lv (v := some (.int (nar t z))) (fun q => by rw [C.ret, hr] at q; cases q) C.locks hQ hc hs (fun T locs fs X hl => retN X C.hx (C.ret.trans hr) ht (C.d hd) hl)
theorem g_retA (C : Cx w Z own bytes ml rt nm R n0 Q Y) {t : FieldType} {v : Value} (hv : v.isRef = true) (hr : rt = some t) (ht : t.isReference = true) (hd : decode bytes pc = .ok (.areturn, 1)) (hQ : Q (some v) h) (hc : k ≤ R.cells) (hs : n ≤ R.slots) : Go w l R n0 Y h k n pc Ls [v] :=
  Go.leave C.lv (v := some v) (fun q => by rw [C.ret, hr] at q; cases q) C.locks hQ hc hs (fun T locs fs X hl => X.areturnOut C.hx hv (C.ret.trans hr) ht (C.d hd) hl)
theorem g_retL (C : Cx w Z own bytes ml rt nm R n0 Q Y) (hr : rt = some .long) (hd : decode bytes pc = .ok (.lreturn, 1)) {z : Int64} (hQ : Q (some (.long z)) h) (hc : k ≤ R.cells) (hs : n ≤ R.slots) : Go w l R n0 Y h k n pc Ls (.long z :: rest) :=
  Go.leave C.lv (v := some (.long z)) (fun q => by rw [C.ret, hr] at q; cases q) C.locks hQ hc hs (fun T locs fs X hl => by
    have hx := C.hx
    have hd' := C.d hd
    have hr' := C.ret.trans hr
    jvm_step X.here [X.here.top, hx, hd', X.method', hr', narrow]
    first | (intro acts; rw [hl _ acts rfl rfl rfl]) | rw [hl _ _ rfl rfl rfl]
    exact Steps.refl _)
/-- an array by a function of its places -/
def Arf (Z : State) (h : Heap) (a : Addr) (ad : String) (ty : FieldType) (z : Int32) (f : Nat → Value) : Prop := Exa Z h a ad ∧ ∃ c : Cell, Arr Z h a c ty ∧ c.slots.size = z.toNatClampNeg ∧ ¬ z < 0 ∧ ∀ i, i < c.slots.size → c.slots[i]? = some (f i) ∧ fits ty (f i) = true
def upd (f : Nat → Value) (j : Nat) (v : Value) : Nat → Value := fun i => if i = j then v else f i
theorem upd_same (f : Nat → Value) (j : Nat) (v : Value) : upd f j v j = v := by simp [upd]
theorem upd_other {f : Nat → Value} {j i : Nat} {v : Value} (q : i ≠ j) : upd f j v i = f i := by simp [upd, q]
variable {a b : Addr} {ad : String} {ty : FieldType} {z : Int32} {f : Nat → Value} {h' : Heap}
theorem Arf.lt (F : Arf Z h a ad ty z f) : a < h.size := F.1.lt
theorem Arf.exa (F : Arf Z h a ad ty z f) : Exa Z h a ad := F.1
theorem Arf.ext (F : Arf Z h a ad ty z f) (E : Ext h h') : Arf Z h' a ad ty z f := by
  obtain ⟨e, c, A, r⟩ := F; exact ⟨e.ext E, c, A.ext E, r⟩
theorem Arf.other {sl : Nat} {v : Value} (F : Arf Z h b ad ty z f) (W : Wr h h' a sl v) (q : b ≠ a) : Arf Z h' b ad ty z f := by
  obtain ⟨e, c, A, r⟩ := F; exact ⟨e.wr W, c, A.other W q, r⟩
theorem Arf.keep {ws : List Addr} (F : Arf Z h a ad ty z f) (K : Keep h h' ws) (q : a ∉ ws) : Arf Z h' a ad ty z f := by
  obtain ⟨e, c, A, r⟩ := F; exact ⟨e.keep K, c, ⟨K.2.1 _ _ A.1 q, A.2⟩, r⟩
theorem Arf.nn (F : Arf Z h a ad ty z f) : ¬ z < 0 := by obtain ⟨-, c, -, -, r, -⟩ := F; exact r
theorem Arf.fits (F : Arf Z h a ad ty z f) {i : Nat} (q : i < z.toNatClampNeg) : fits ty (f i) = true := by
  obtain ⟨-, c, -, S, -, r⟩ := F; exact (r i (by rw [S]; exact q)).2
theorem Arf.congr {g : Nat → Value} (F : Arf Z h a ad ty z f) (q : ∀ i, i < z.toNatClampNeg → f i = g i) : Arf Z h a ad ty z g := by
  obtain ⟨e, c, A, S, N, r⟩ := F; exact ⟨e, c, A, S, N, fun i hi => by rw [← q i (S ▸ hi)]; exact r i hi⟩
theorem Arf.set {j : Int32} {v : Value} (F : Arf Z h a ad ty z f) (W : Wr h h' a j.toNatClampNeg v) (hv : Jvm.fits ty v = true) (hj : ¬ j < 0) : Arf Z h' a ad ty z (upd f j.toNatClampNeg v) := by
  obtain ⟨e, c, A, S, N, r⟩ := F
  refine ⟨e.wr W, _, A.same W, by rw [sz_set]; exact S, N, fun i hi => ?_⟩
  rw [sz_set] at hi
  by_cases q : i = j.toNatClampNeg
  · subst q; refine ⟨?_, by rw [upd_same]; exact hv⟩
    rw [upd_same]; simp [Cell.setSlot, hi]
  · rw [upd_other q]; refine ⟨?_, (r i hi).2⟩
    rw [← (r i hi).1]; exact Array.getElem?_setIfInBounds_ne (Ne.symm q)
theorem nat_lt {j z : Int32} (h1 : ¬ j < 0) (h2 : j < z) : j.toNatClampNeg < z.toNatClampNeg := by
  rw [Int32.lt_iff_toInt_lt] at h1 h2
  have : (0 : Int32).toInt = 0 := rfl
  simp only [Int32.toNatClampNeg]; omega
theorem Arf.arv (F : Arf Z h a ad ty z f) (d : Value) : ∃ kc, Arv Z h a kc ty z ((List.range z.toNatClampNeg).map f) d := by
  obtain ⟨e, c, A, S, N, r⟩ := F
  refine ⟨c.cls, c, A, rfl, S, N, fun i hi => ?_, fun i hi => ?_⟩
  · rw [(r i hi).1]; rw [S] at hi; simp [List.getD, hi]
  · have q := (r i hi).2; rw [S] at hi; simpa [List.getD, hi] using q
theorem Arf.of_arv {kc : ClassId} {vs : List Value} {d : Value} (e : Exa Z h a ad) (V : Arv Z h a kc ty z vs d) : Arf Z h a ad ty z (fun i => vs.getD i d) := by
  obtain ⟨c, A, -, S, N, H, G⟩ := V
  exact ⟨e, c, A, S, N, fun i hi => ⟨H i hi, G i hi⟩⟩
theorem g_new (C : Cx w Z own bytes ml rt nm R n0 Q Y) {i : Nat} {cl : String} {m : Nat} (w1 : (Jvm.Cond.classLink own i cl).before a0 Z = true) (w2 : (Jvm.Cond.instantiable cl m).before a0 Z = true) (w3 : (Jvm.Cond.initialized cl).before a0 Z = true) (hd : decode bytes pc = .ok (.new i, 3)) (hp : pc + 3 = pc') {k' n' : Nat} (hk : k + 1 = k') (hn : n + m = n') (hc : k' ≤ R.cells) (hs : n' ≤ R.slots)
    (G : ∀ (h' : Heap) (b : Addr), Ext h h' → h.size ≤ b → n0 ≤ b → Exa Z h' b cl → (∀ {O nm d : String} {ty : FieldType}, Laid Z a0 cl O nm d → parseFieldDescriptor d = some ty → Fld Z h' b O nm d (defaultValue ty)) → Go w l R n0 Y h' k' n' pc' Ls (.ref b :: st)) : Go w l R n0 Y h k n pc Ls st := by
  subst hp hk hn
  intro T locs X hT hn N
  obtain ⟨T', h', X', e', E, A, D, -, s'⟩ := newO X C.hx C.hZ C.hown w1 w2 w3 hT (g := mkF w.m pc Ls st) rfl (C.d hd) hc hs
  obtain ⟨s₂, o, h1, h2⟩ := G h' _ E (Nat.le_refl _) hn.1 A D T' locs X' e' (own_grow hn E.1) N
  exact ⟨s₂, o, s' _ h1, h2⟩
theorem g_newarr (C : Cx w Z own bytes ml rt nm R n0 Q Y) {aty : ArrayType} {ad : String} {z : Int32} {cap : Nat} (w1 : (Jvm.Cond.arrayClass (newarray.typeOf aty)).before a0 Z = true) (hd : decode bytes pc = .ok (.newarray aty, 2)) (hp : pc + 2 = pc') (had : "[" ++ (newarray.typeOf aty).toString = ad) (hz : ¬ z < 0) (hcap : z.toNatClampNeg ≤ cap) (hb : cap * 8 ≤ 536870912) {k' n' : Nat} (hk : k + 1 = k') (hn : n + cap = n') (hc : k' ≤ R.cells) (hs : n' ≤ R.slots) (hfit : Jvm.fits (newarray.typeOf aty) (defaultValue (newarray.typeOf aty)) = true)
    (G : ∀ (h' : Heap) (b : Addr), Ext h h' → h.size ≤ b → n0 ≤ b → Arf Z h' b ad (newarray.typeOf aty) z (fun _ => defaultValue (newarray.typeOf aty)) → Go w l R n0 Y h' k' n' pc' Ls (.ref b :: rest)) : Go w l R n0 Y h k n pc Ls (.int z :: rest) := by
  subst hp hk hn
  intro T locs X hT hn N
  obtain ⟨T', h', cA, X', e', E, A, Ex, s'⟩ := newPE X C.hx C.hZ w1 hT (g := mkF w.m pc Ls (.int z :: rest)) rfl (C.d hd) rfl hz hcap hb hc hs had
  obtain ⟨s₂, o, h1, h2⟩ := G h' _ E (Nat.le_refl _) hn.1 ⟨Ex, _, A, sz_new _ _ _, hz, fun i hi => ⟨by rw [sz_new] at hi; simp [newA, hi], hfit⟩⟩ T' locs X' e' (own_grow hn E.1) N
  exact ⟨s₂, o, s' _ h1, h2⟩
theorem g_getF (C : Cx w Z own bytes ml rt nm R n0 Q Y) {R0 O nf d host : String} {i : Nat} {v : Value} (w1 : (Jvm.Cond.fieldLink own i R0 nf d).before a0 Z = true ∨ (Jvm.Cond.fieldLinkNest own i R0 nf d host).before a0 Z = true) (via : Via Z R0 O nf d) (F : Fld Z h a O nf d v) (hd : decode bytes pc = .ok (.getfield i, 3)) (hp : pc + 3 = pc')
    (G : Go w l R n0 Y h k n pc' Ls (v :: rest)) : Go w l R n0 Y h k n pc Ls (.ref a :: rest) := by
  subst hp
  intro T locs X hT hn N
  obtain ⟨T', X', e', s'⟩ := getF X C.hx C.hZ C.hown w1 via hT F (g := mkF w.m pc Ls (.ref a :: rest)) rfl rfl (C.d hd)
  obtain ⟨s₂, o, h1, h2⟩ := G T' locs X' e' hn N
  exact ⟨s₂, o, s' _ h1, h2⟩
theorem g_getS (C : Cx w Z own bytes ml rt nm R n0 Q Y) {R0 O nf d host : String} {i : Nat} {v : Value} (w1 : (Jvm.Cond.fieldLink own i R0 nf d).before a0 Z = true ∨ (Jvm.Cond.fieldLinkNest own i R0 nf d host).before a0 Z = true) (via : Via Z R0 O nf d) (F : Sta Z h O nf d v) (hd : decode bytes pc = .ok (.getstatic i, 3)) (hp : pc + 3 = pc')
    (G : Go w l R n0 Y h k n pc' Ls (v :: st)) : Go w l R n0 Y h k n pc Ls st := by
  subst hp
  intro T locs X hT hn N
  obtain ⟨T', X', e', s'⟩ := getS2 X C.hx C.hZ C.hown w1 via hT F (g := mkF w.m pc Ls st) rfl (C.d hd)
  obtain ⟨s₂, o, h1, h2⟩ := G T' locs X' e' hn N
  exact ⟨s₂, o, s' _ h1, h2⟩
theorem g_putF (C : Cx w Z own bytes ml rt nm R n0 Q Y) {R0 O nf d host cl : String} {i kk : Nat} {ty : FieldType} {v old : Value} (w1 : (Jvm.Cond.fieldLink own i R0 nf d).before a0 Z = true ∨ (Jvm.Cond.fieldLinkNest own i R0 nf d host).before a0 Z = true) (via : Via Z R0 O nf d) (F : Fld Z h a O nf d old) (E : Exa Z h a cl) (L : (Jvm.Cond.lays cl O nf d).before a0 Z = true ∨ ((Jvm.Cond.laysFinal cl O nf d).before a0 Z = true ∧ own = O ∧ nm = "<init>")) (wi : (Jvm.Cond.instantiable cl kk).before a0 Z = true)
    (hty : parseFieldDescriptor d = some ty) (hnr : narrow ty v = v) (hf : Jvm.fits ty v = true) (hd : decode bytes pc = .ok (.putfield i, 3)) (hp : pc + 3 = pc') (ha : n0 ≤ a)
    (G : ∀ h' : Heap, Wr h h' a (Jvm.RoadKit.slotOf Z O nf d) v → Go w l R n0 Y h' k n pc' Ls rest) : Go w l R n0 Y h k n pc Ls (v :: .ref a :: rest) := by
  subst hp
  intro T locs X hT hn N
  obtain ⟨T', h', X', e', W, s'⟩ := putF X C.hx C.hZ C.hown w1 via hT F E (L.imp id fun q => ⟨q.1, q.2.1, C.name.trans q.2.2⟩) wi hty hnr hf (g := mkF w.m pc Ls (v :: .ref a :: rest)) rfl rfl (C.d hd)
  obtain ⟨s₂, o, h1, h2⟩ := G h' W T' _ X' e' (by rw [W.size]; exact hn) (Fr.snoc X' N ha)
  exact ⟨s₂, o, s' _ h1, h2⟩
theorem g_putFN (C : Cx w Z own bytes ml rt nm R n0 Q Y) {R0 O nf d cl : String} {i kk : Nat} {ty : FieldType} {v v' old : Value} (w1 : (Jvm.Cond.fieldLink own i R0 nf d).before a0 Z = true) (via : Via Z R0 O nf d) (F : Fld Z h a O nf d old) (E : Exa Z h a cl) (L : (Jvm.Cond.lays cl O nf d).before a0 Z = true ∨ ((Jvm.Cond.laysFinal cl O nf d).before a0 Z = true ∧ own = O ∧ nm = "<init>")) (wi : (Jvm.Cond.instantiable cl kk).before a0 Z = true)
    (hty : parseFieldDescriptor d = some ty) (hnr : narrow ty v = v') (hf : Jvm.fits ty v' = true) (hd : decode bytes pc = .ok (.putfield i, 3)) (hp : pc + 3 = pc') (ha : n0 ≤ a)
    (G : ∀ h' : Heap, Wr h h' a (Jvm.RoadKit.slotOf Z O nf d) v' → Go w l R n0 Y h' k n pc' Ls rest) : Go w l R n0 Y h k n pc Ls (v :: .ref a :: rest) := by
  subst hp
  intro T locs X hT hn N
  obtain ⟨T', h', X', e', W, s'⟩ := putFN X C.hx C.hZ C.hown w1 via hT F E (L.imp id fun q => ⟨q.1, q.2.1, C.name.trans q.2.2⟩) wi hty hnr hf (g := mkF w.m pc Ls (v :: .ref a :: rest)) rfl rfl (C.d hd)
  obtain ⟨s₂, o, h1, h2⟩ := G h' W T' _ X' e' (by rw [W.size]; exact hn) (Fr.snoc X' N ha)
  exact ⟨s₂, o, s' _ h1, h2⟩
theorem g_bastore (C : Cx w Z own bytes ml rt nm R n0 Q Y) {j x : Int32} (F : Arf Z h a ad .byte z f) (hj : ¬ j < 0) (hz : j < z) (hd : decode bytes pc = .ok (.bastore, 1)) (hp : pc + 1 = pc') (ha : n0 ≤ a)
    (G : ∀ h' : Heap, Wr h h' a j.toNatClampNeg (.int (nar .byte x)) → Arf Z h' a ad .byte z (upd f j.toNatClampNeg (.int (nar .byte x))) → Go w l R n0 Y h' k n pc' Ls rest) : Go w l R n0 Y h k n pc Ls (.int x :: .int j :: .ref a :: rest) := by
  subst hp
  intro T locs X hT hn N
  obtain ⟨-, c, A, S, -⟩ := id F
  obtain ⟨T', h', X', e', W, s'⟩ := stB X C.hx C.hZ hT A (inb_of S ⟨hj, hz⟩) (g := mkF w.m pc Ls (.int x :: .int j :: .ref a :: rest)) rfl rfl (C.d hd)
  obtain ⟨s₂, o, h1, h2⟩ := G h' W (F.set W (fits_nar_byte _) hj) T' _ X' e' (by rw [W.size]; exact hn) (Fr.snoc X' N ha)
  exact ⟨s₂, o, s' _ h1, h2⟩
theorem g_zastore (C : Cx w Z own bytes ml rt nm R n0 Q Y) {j x : Int32} (F : Arf Z h a ad .boolean z f) (hj : ¬ j < 0) (hz : j < z) (hd : decode bytes pc = .ok (.bastore, 1)) (hp : pc + 1 = pc') (ha : n0 ≤ a)
    (G : ∀ h' : Heap, Wr h h' a j.toNatClampNeg (.int (nar .boolean x)) → Arf Z h' a ad .boolean z (upd f j.toNatClampNeg (.int (nar .boolean x))) → Go w l R n0 Y h' k n pc' Ls rest) : Go w l R n0 Y h k n pc Ls (.int x :: .int j :: .ref a :: rest) := by
  subst hp
  intro T locs X hT hn N
  obtain ⟨-, c, A, S, -⟩ := id F
  obtain ⟨T', h', X', e', W, s'⟩ := stZ X C.hx C.hZ hT A (inb_of S ⟨hj, hz⟩) (g := mkF w.m pc Ls (.int x :: .int j :: .ref a :: rest)) rfl rfl (C.d hd)
  obtain ⟨s₂, o, h1, h2⟩ := G h' W (F.set W (fits_nar_bool _) hj) T' _ X' e' (by rw [W.size]; exact hn) (Fr.snoc X' N ha)
  exact ⟨s₂, o, s' _ h1, h2⟩
theorem g_castore (C : Cx w Z own bytes ml rt nm R n0 Q Y) {j x : Int32} (F : Arf Z h a ad .char z f) (hj : ¬ j < 0) (hz : j < z) (hd : decode bytes pc = .ok (.castore, 1)) (hp : pc + 1 = pc') (ha : n0 ≤ a)
    (G : ∀ h' : Heap, Wr h h' a j.toNatClampNeg (.int (nar .char x)) → Arf Z h' a ad .char z (upd f j.toNatClampNeg (.int (nar .char x))) → Go w l R n0 Y h' k n pc' Ls rest) : Go w l R n0 Y h k n pc Ls (.int x :: .int j :: .ref a :: rest) := by
  subst hp
  intro T locs X hT hn N
  obtain ⟨-, c, A, S, -⟩ := id F
  obtain ⟨T', h', X', e', W, s'⟩ := stC X C.hx C.hZ hT A (inb_of S ⟨hj, hz⟩) (g := mkF w.m pc Ls (.int x :: .int j :: .ref a :: rest)) rfl rfl (C.d hd)
  obtain ⟨s₂, o, h1, h2⟩ := G h' W (F.set W (fits_nar_char _) hj) T' _ X' e' (by rw [W.size]; exact hn) (Fr.snoc X' N ha)
  exact ⟨s₂, o, s' _ h1, h2⟩
theorem g_iastore (C : Cx w Z own bytes ml rt nm R n0 Q Y) {j x : Int32} (F : Arf Z h a ad .int z f) (hj : ¬ j < 0) (hz : j < z) (hd : decode bytes pc = .ok (.iastore, 1)) (hp : pc + 1 = pc') (ha : n0 ≤ a)
    (G : ∀ h' : Heap, Wr h h' a j.toNatClampNeg (.int x) → Arf Z h' a ad .int z (upd f j.toNatClampNeg (.int x)) → Go w l R n0 Y h' k n pc' Ls rest) : Go w l R n0 Y h k n pc Ls (.int x :: .int j :: .ref a :: rest) := by
  subst hp
  intro T locs X hT hn N
  obtain ⟨-, c, A, S, -⟩ := id F
  obtain ⟨T', h', X', e', W, s'⟩ := stI X C.hx C.hZ hT A (inb_of S ⟨hj, hz⟩) (g := mkF w.m pc Ls (.int x :: .int j :: .ref a :: rest)) rfl rfl (C.d hd)
  obtain ⟨s₂, o, h1, h2⟩ := G h' W (F.set W (rfl) hj) T' _ X' e' (by rw [W.size]; exact hn) (Fr.snoc X' N ha)
  exact ⟨s₂, o, s' _ h1, h2⟩
theorem g_baload (C : Cx w Z own bytes ml rt nm R n0 Q Y) {j : Int32} {v : Value} (F : Arf Z h a ad .byte z f) (hj : ¬ j < 0) (hz : j < z) (hv : f j.toNatClampNeg = v) (hd : decode bytes pc = .ok (.baload, 1)) (hp : pc + 1 = pc')
    (G : Go w l R n0 Y h k n pc' Ls (v :: rest)) : Go w l R n0 Y h k n pc Ls (.int j :: .ref a :: rest) := by
  subst hp
  obtain ⟨-, c, A, S, -, r⟩ := F
  exact Go.stand (fun T t locs X hT K => X.baloadBytes C.hx (j := j) (v := v) (by rw [hT]; exact A.1) (State.isArrayOf_alike C.hZ.alike A.2.1) A.2.2 (inb_of S ⟨hj, hz⟩) (by rw [(r _ (by rw [S]; exact nat_lt hj hz)).1, hv]) (g := mkF w.m pc Ls (.int j :: .ref a :: rest)) rfl rfl (C.d hd) _ K) G
theorem g_zaload (C : Cx w Z own bytes ml rt nm R n0 Q Y) {j : Int32} {v : Value} (F : Arf Z h a ad .boolean z f) (hj : ¬ j < 0) (hz : j < z) (hv : f j.toNatClampNeg = v) (hd : decode bytes pc = .ok (.baload, 1)) (hp : pc + 1 = pc')
    (G : Go w l R n0 Y h k n pc' Ls (v :: rest)) : Go w l R n0 Y h k n pc Ls (.int j :: .ref a :: rest) := by
  subst hp
  obtain ⟨-, c, A, S, -, r⟩ := F
  exact Go.stand (fun T t locs X hT K => X.baloadBooleans C.hx (j := j) (v := v) (by rw [hT]; exact A.1) (State.isArrayOf_alike C.hZ.alike A.2.1) A.2.2 (inb_of S ⟨hj, hz⟩) (by rw [(r _ (by rw [S]; exact nat_lt hj hz)).1, hv]) (g := mkF w.m pc Ls (.int j :: .ref a :: rest)) rfl rfl (C.d hd) _ K) G
theorem g_caload (C : Cx w Z own bytes ml rt nm R n0 Q Y) {j : Int32} {v : Value} (F : Arf Z h a ad .char z f) (hj : ¬ j < 0) (hz : j < z) (hv : f j.toNatClampNeg = v) (hd : decode bytes pc = .ok (.caload, 1)) (hp : pc + 1 = pc')
    (G : Go w l R n0 Y h k n pc' Ls (v :: rest)) : Go w l R n0 Y h k n pc Ls (.int j :: .ref a :: rest) := by
  subst hp
  obtain ⟨-, c, A, S, -, r⟩ := F
  exact Go.stand (fun T t locs X hT K => X.caload C.hx (j := j) (v := v) (by rw [hT]; exact A.1) (State.isArrayOf_alike C.hZ.alike A.2.1) A.2.2 (inb_of S ⟨hj, hz⟩) (by rw [(r _ (by rw [S]; exact nat_lt hj hz)).1, hv]) (g := mkF w.m pc Ls (.int j :: .ref a :: rest)) rfl rfl (C.d hd) _ K) G
theorem g_iaload (C : Cx w Z own bytes ml rt nm R n0 Q Y) {j : Int32} {v : Value} (F : Arf Z h a ad .int z f) (hj : ¬ j < 0) (hz : j < z) (hv : f j.toNatClampNeg = v) (hd : decode bytes pc = .ok (.iaload, 1)) (hp : pc + 1 = pc')
    (G : Go w l R n0 Y h k n pc' Ls (v :: rest)) : Go w l R n0 Y h k n pc Ls (.int j :: .ref a :: rest) := by
  subst hp
  obtain ⟨-, c, A, S, -, r⟩ := F
  exact Go.stand (fun T t locs X hT K => X.iaload C.hx (j := j) (v := v) (by rw [hT]; exact A.1) (State.isArrayOf_alike C.hZ.alike A.2.1) A.2.2 (inb_of S ⟨hj, hz⟩) (by rw [(r _ (by rw [S]; exact nat_lt hj hz)).1, hv]) (g := mkF w.m pc Ls (.int j :: .ref a :: rest)) rfl rfl (C.d hd) _ K) G
theorem g_aaload (C : Cx w Z own bytes ml rt nm R n0 Q Y) {j : Int32} {v : Value} (hty : ty.isReference = true) (F : Arf Z h a ad ty z f) (hj : ¬ j < 0) (hz : j < z) (hv : f j.toNatClampNeg = v) (hd : decode bytes pc = .ok (.aaload, 1)) (hp : pc + 1 = pc')
    (G : Go w l R n0 Y h k n pc' Ls (v :: rest)) : Go w l R n0 Y h k n pc Ls (.int j :: .ref a :: rest) := by
  subst hp
  obtain ⟨-, c, A, S, -, r⟩ := F
  exact Go.stand (fun T t locs X hT K => X.aaload C.hx (j := j) (v := v) (by rw [hT]; exact A.1) (State.isArrayOf_alike C.hZ.alike A.2.1) hty A.2.2 (inb_of S ⟨hj, hz⟩) (by rw [(r _ (by rw [S]; exact nat_lt hj hz)).1, hv]) (g := mkF w.m pc Ls (.int j :: .ref a :: rest)) rfl rfl (C.d hd) _ K) G
theorem g_len (C : Cx w Z own bytes ml rt nm R n0 Q Y) (F : Arf Z h a ad ty z f) (hd : decode bytes pc = .ok (.arraylength, 1)) (hp : pc + 1 = pc') (G : Go w l R n0 Y h k n pc' Ls (.int z :: rest)) : Go w l R n0 Y h k n pc Ls (.ref a :: rest) := by
  subst hp
  obtain ⟨-, c, A, S, M, r⟩ := F
  refine Go.stand (fun T t locs X hT K => X.arraylength C.hx (by rw [hT]; exact A.1) (State.isArrayOf_alike C.hZ.alike A.2.1) (g := mkF w.m pc Ls (.ref a :: rest)) rfl rfl (C.d hd) _ ?_) G
  rw [len_of S M]; exact K
theorem g_cast (C : Cx w Z own bytes ml rt nm R n0 Q Y) {i : Nat} {cl : String} (w1 : (Jvm.Cond.classLink own i cl).before a0 Z = true) (I : Ins Z h a cl true) (hd : decode bytes pc = .ok (.checkcast i, 3)) (hp : pc + 3 = pc') (G : Go w l R n0 Y h k n pc' Ls (.ref a :: rest)) : Go w l R n0 Y h k n pc Ls (.ref a :: rest) := by
  subst hp
  intro T locs X hT hn N
  obtain ⟨T', X', e', s'⟩ := castY X C.hx C.hZ C.hown w1 hT I (g := mkF w.m pc Ls (.ref a :: rest)) rfl rfl (C.d hd)
  obtain ⟨s₂, o, h1, h2⟩ := G T' locs X' e' hn N
  exact ⟨s₂, o, s' _ h1, h2⟩
theorem g_castNull (C : Cx w Z own bytes ml rt nm R n0 Q Y) {i : Nat} (hd : decode bytes pc = .ok (.checkcast i, 3)) (hp : pc + 3 = pc') (G : Go w l R n0 Y h k n pc' Ls (.null :: rest)) : Go w l R n0 Y h k n pc Ls (.null :: rest) := by
  subst hp
  exact Go.stand (fun T t locs X hT K => X.checkcastNull C.hx (g := mkF w.m pc Ls (.null :: rest)) rfl rfl (C.d hd) _ K) G
theorem g_inst (C : Cx w Z own bytes ml rt nm R n0 Q Y) {i : Nat} {cl : String} (w1 : (Jvm.Cond.classLink own i cl).before a0 Z = true) (I : Ins Z h a cl true) (hd : decode bytes pc = .ok (.instanceof i, 3)) (hp : pc + 3 = pc') (G : Go w l R n0 Y h k n pc' Ls (.int 1 :: rest)) : Go w l R n0 Y h k n pc Ls (.ref a :: rest) := by
  subst hp
  intro T locs X hT hn N
  obtain ⟨T', X', e', s'⟩ := instY X C.hx C.hZ C.hown w1 hT I (g := mkF w.m pc Ls (.ref a :: rest)) rfl rfl (C.d hd)
  obtain ⟨s₂, o, h1, h2⟩ := G T' locs X' e' hn N
  exact ⟨s₂, o, s' _ h1, h2⟩
theorem g_initO (C : Cx w Z own bytes ml rt nm R n0 Q Y) {i : Nat} {W : Nat} (w1 : (Jvm.Cond.methodLink own i Lib.objectInit).before a0 Z = true) (w2 : (Jvm.Cond.instanceMethod Lib.objectInit).before a0 Z = true) (w3 : (Jvm.Cond.code Lib.objectInit ⟨#[0xb1]⟩ 1 none).before a0 Z = true) (hd : decode bytes pc = .ok (.invokespecial i, 3)) (hp : pc + 3 = pc') (hml : Ls.size = ml) (hf : 1 ≤ R.frames) (hW : (rest.map fun v => v.category).sum ≤ W) (hl : W + 12 ≤ R.locals)
    (G : Go w l R n0 Y h k n pc' Ls rest) : Go w l R n0 Y h k n pc Ls (.ref a :: rest) := by
  subst hp
  intro T locs X hT hn N
  obtain ⟨T', X', e', s'⟩ := initO X C.hx C.hZ C.hown w1 w2 w3 hT (g := mkF w.m pc Ls (.ref a :: rest)) rfl (by rw [C.hml]; exact hml) rfl (C.d hd) hf (W := W) (by simpa using hW) hl
  obtain ⟨s₂, o, h1, h2⟩ := G T' locs X' e' hn N
  exact ⟨s₂, o, s' _ h1, h2⟩
/-- what a callee's Back says here -/
abbrev PreB (R : Room) (h : Heap) (rm : Room) (as' : Array Value) : Pt → Array Value → Prop := fun A a => a = as' ∧ A.U.heap = h ∧ A.cells + rm.cells ≤ R.cells ∧ A.slots + rm.slots ≤ R.slots
abbrev PostB (n0 : Nat) (rm : Room) (Qc : Option Value → Heap → Prop) : Pt → Array Value → Option Value → Pt → Prop := fun A _ v B => ∃ L, (Qc v B.U.heap ∧ Fr n0 L ∧ A.U.heap.size ≤ B.U.heap.size) ∧ B.locs = A.locs ++ L ∧ B.cells = A.cells + rm.cells ∧ B.slots = A.slots + rm.slots
theorem Met.back {y : MethodName} {yb : ByteArray} {yl : Nat} {yr : Option FieldType} {rm : Room} {as' : Array Value} {Qc : Option Value → Heap → Prop} {W len : Nat} (M : Met l Z y yb yl yr rm n0 h as' Qc) (hn : n0 ≤ h.size) (hZ : Z.Warmed39 w.s.vm) (wc : (Jvm.Cond.code y yb yl yr).before a0 Z = true) (wz : (Jvm.Cond.initialized y.cls).before a0 Z = true) (hf : rm.frames + 1 ≤ R.frames) (hl : W + (yl + 11) + rm.locals ≤ R.locals) :
    Back l R w.p w.e w.below w.s w.as y len W (PreB R h rm as') (PostB n0 rm Qc) :=
  Back.mono (backOf (W := W) (Q := fun v h' L => Qc v h' ∧ Fr n0 L ∧ h.size ≤ h'.size) (M hn []) hZ wc wz hf hl) (fun P a hp => hp) (fun P a v B hp hq => by
    obtain ⟨L, q, r⟩ := hq
    exact ⟨L, ⟨q.1, q.2.1, by rw [hp.2.1]; exact q.2.2⟩, r⟩)
section Calls
variable {y y' : MethodName} {yb : ByteArray} {yl : Nat} {yr : Option FieldType} {rm : Room} {Qc : Option Value → Heap → Prop} {W i k' n' : Nat} {argsL : List Value} {cl : String}
theorem g_static (C : Cx w Z own bytes ml rt nm R n0 Q Y) (w1 : (Jvm.Cond.methodLink own i y).before a0 Z = true) (w2 : (Jvm.Cond.static y).before a0 Z = true) (w3 : (Jvm.Cond.initialized y.cls).before a0 Z = true) (w4 : (Jvm.Cond.code y yb yl yr).before a0 Z = true) (hy : y.cls ≠ "java/lang/invoke/MethodHandle" ∧ y.cls ≠ "java/lang/invoke/VarHandle")
    (hd : decode bytes pc = .ok (.invokestatic i, 3)) (hp : pc + 3 = pc') (hlen : ∀ sig, parseMethodDescriptor y.desc = some sig → argsL.length = sig.parameters.length) (hst : st = argsL.reverse ++ rest) (hW : (rest.map fun v => v.category).sum ≤ W) (hml : Ls.size = ml)
    (B : n0 ≤ h.size → Back l R w.p w.e w.below w.s w.as y 3 W (PreB R h rm argsL.toArray) (PostB n0 rm Qc)) (hk : k + rm.cells = k') (hn : n + rm.slots = n') (hc : k' ≤ R.cells) (hs : n' ≤ R.slots)
    (G : ∀ (v : Option Value) (h' : Heap), Qc v h' → Go w l R n0 Y h' k' n' pc' Ls (v.toList ++ rest)) : Go w l R n0 Y h k n pc Ls st := by
  subst hp hk hn
  intro T locs X hT hn N
  obtain ⟨v, vm₁, ⟨TB, LB, kB, nB⟩, -, X', ⟨L, hQ, l1, l2, l3⟩, s'⟩ := Jvm.LawKit.callS X C.hx C.hown (mvT C.hZ w1) (mvT C.hZ w2) (mvT C.hZ w3) (mvT C.hZ w4) hy (B hn.1) (g := mkF w.m pc Ls st) rfl (by rw [C.hml]; exact hml) (argsL := argsL) (rest := rest) hlen hst (by simpa using hW) (C.d hd) (fun vm₁ h₁ => ⟨rfl, hT, hc, hs⟩)
  dsimp only [Pt.U, Pt.locs, Pt.cells, Pt.slots] at X' l1 l2 l3 s' hQ
  subst l1 l2 l3
  obtain ⟨s₂, o, h1, h2⟩ := G v TB.heap hQ.1 TB _ X' rfl (own_grow hn (hT ▸ hQ.2.2)) (N.app hQ.2.1)
  exact ⟨s₂, o, s' _ h1, h2⟩
theorem g_special (C : Cx w Z own bytes ml rt nm R n0 Q Y) {yl0 : Nat} {yb0 : ByteArray} (hy1 : y.name = "<init>") (w1 : (Jvm.Cond.methodLink own i y).before a0 Z = true) (w2 : (Jvm.Cond.instanceMethod y).before a0 Z = true) (w4 : (Jvm.Cond.code y yb0 yl0 none).before a0 Z = true) (hy : y.cls ≠ "java/lang/invoke/MethodHandle" ∧ y.cls ≠ "java/lang/invoke/VarHandle")
    (hd : decode bytes pc = .ok (.invokespecial i, 3)) (hp : pc + 3 = pc') (hlen : ∀ sig, parseMethodDescriptor y.desc = some sig → argsL.length = sig.parameters.length) (hst : st = argsL.reverse ++ .ref a :: rest) (hW : (rest.map fun v => v.category).sum ≤ W) (hml : Ls.size = ml)
    (B : n0 ≤ h.size → Back l R w.p w.e w.below w.s w.as y 3 W (PreB R h rm (.ref a :: argsL).toArray) (PostB n0 rm Qc)) (hk : k + rm.cells = k') (hn : n + rm.slots = n') (hc : k' ≤ R.cells) (hs : n' ≤ R.slots)
    (G : ∀ (v : Option Value) (h' : Heap), Qc v h' → Go w l R n0 Y h' k' n' pc' Ls (v.toList ++ rest)) : Go w l R n0 Y h k n pc Ls st := by
  subst hp hk hn
  intro T locs X hT hn N
  obtain ⟨v, vm₁, ⟨TB, LB, kB, nB⟩, -, X', ⟨L, hQ, l1, l2, l3⟩, s'⟩ := X.specialBack C.hx hy1 C.hown (mvT C.hZ w1) (mvT C.hZ w2) (mvT C.hZ w4) hy (B hn.1) (g := mkF w.m pc Ls st) rfl (by rw [C.hml]; exact hml) (Steps.refl _) (a := a) (argsL := argsL) (rest := rest) hlen hst (by simpa using hW) (C.d hd) (fun vm₁ h₁ => ⟨rfl, hT, hc, hs⟩)
  dsimp only [Pt.U, Pt.locs, Pt.cells, Pt.slots] at X' l1 l2 l3 s' hQ
  subst l1 l2 l3
  obtain ⟨s₂, o, h1, h2⟩ := G v TB.heap hQ.1 TB _ X' rfl (own_grow hn (hT ▸ hQ.2.2)) (N.app hQ.2.1)
  exact ⟨s₂, o, s'.trans h1, h2⟩
theorem g_virtual (C : Cx w Z own bytes ml rt nm R n0 Q Y) (w1 : (Jvm.Cond.methodLink own i y).before a0 Z = true) (w2 : (Jvm.Cond.declares y).before a0 Z = true) (nf : NotFace w.s y) (w3 : (Jvm.Cond.selects cl y y').before a0 Z = true) (w4 : (Jvm.Cond.instanceMethod y').before a0 Z = true) (hy : y.cls ≠ "java/lang/invoke/MethodHandle" ∧ y.cls ≠ "java/lang/invoke/VarHandle") (E : Exa Z h a cl)
    (hd : decode bytes pc = .ok (.invokevirtual i, 3)) (hp : pc + 3 = pc') (hlen : ∀ sig, parseMethodDescriptor y.desc = some sig → argsL.length = sig.parameters.length) (hst : st = argsL.reverse ++ .ref a :: rest) (hW : (rest.map fun v => v.category).sum ≤ W) (hml : Ls.size = ml)
    (B : n0 ≤ h.size → Back l R w.p w.e w.below w.s w.as y' 3 W (PreB R h rm (.ref a :: argsL).toArray) (PostB n0 rm Qc)) (hk : k + rm.cells = k') (hn : n + rm.slots = n') (hc : k' ≤ R.cells) (hs : n' ≤ R.slots)
    (G : ∀ (v : Option Value) (h' : Heap), Qc v h' → Go w l R n0 Y h' k' n' pc' Ls (v.toList ++ rest)) : Go w l R n0 Y h k n pc Ls st := by
  subst hp hk hn
  intro T locs X hT hn N
  obtain ⟨cq, kq, qa, qb, qc⟩ := isOf C.hZ hT E
  obtain ⟨v, vm₁, ⟨TB, LB, kB, nB⟩, -, X', ⟨L, hQ, l1, l2, l3⟩, s'⟩ := X.virtualBack C.hx C.hown (mvT C.hZ w1) (mvT C.hZ w2) nf (mvT C.hZ w3) (mvT C.hZ w4) hy (B hn.1) qa qc (g := mkF w.m pc Ls st) rfl (by rw [C.hml]; exact hml) (Steps.refl _) (argsL := argsL) (rest := rest) hlen hst (by simpa using hW) (C.d hd) (fun vm₁ h₁ => ⟨rfl, hT, hc, hs⟩)
  dsimp only [Pt.U, Pt.locs, Pt.cells, Pt.slots] at X' l1 l2 l3 s' hQ
  subst l1 l2 l3
  obtain ⟨s₂, o, h1, h2⟩ := G v TB.heap hQ.1 TB _ X' rfl (own_grow hn (hT ▸ hQ.2.2)) (N.app hQ.2.1)
  exact ⟨s₂, o, s'.trans h1, h2⟩
theorem g_nf (C : Cx w Z own bytes ml rt nm R n0 Q Y) (w3 : (Jvm.Cond.selects cl y y).before a0 Z = true) : NotFace w.s y := notFace_of_selects (args := #[]) (mvT C.hZ w3)
theorem g_selPriv (C : Cx w Z own bytes ml rt nm R n0 Q Y) {yo : MethodName} (hc : yo.cls = y.cls) (w3 : (Jvm.Cond.selects yo.cls yo yo).before a0 Z = true) (w2 : (Jvm.Cond.instanceMethod y).before a0 Z = true) (w5 : (Jvm.Cond.privateMethod y).before a0 Z = true) (hy : y.cls ≠ "java/lang/invoke/MethodHandle" ∧ y.cls ≠ "java/lang/invoke/VarHandle") : (Jvm.Cond.selects y.cls y y).before w.as w.s = true := by
  have h3 : (Jvm.Cond.selects yo.cls yo yo).before w.as w.s = true := mvT C.hZ w3
  obtain ⟨c2, r2, m2, -, -, q3, -, kP, hkP, hkPi⟩ := Cond.selects_spec h3
  exact selects_self_of_private (c := m2.cls) (hc ▸ findClass_of_methodNamed q3) hkP hkPi (Cond.privateMethod_at (mvP C.hZ w5 (args := #[]))) (mvT C.hZ w2) hy
theorem g_private (C : Cx w Z own bytes ml rt nm R n0 Q Y) (w1 : (Jvm.Cond.methodLink own i y).before a0 Z = true) (w2 : (Jvm.Cond.instanceMethod y).before a0 Z = true) (w3 : (Jvm.Cond.selects y.cls y y).before w.as w.s = true) (w5 : (Jvm.Cond.privateMethod y).before a0 Z = true) (w4 : (Jvm.Cond.code y yb yl yr).before a0 Z = true) (hy : y.cls ≠ "java/lang/invoke/MethodHandle" ∧ y.cls ≠ "java/lang/invoke/VarHandle") (E : Exa Z h a cl)
    (hd : decode bytes pc = .ok (.invokevirtual i, 3)) (hp : pc + 3 = pc') (hlen : ∀ sig, parseMethodDescriptor y.desc = some sig → argsL.length = sig.parameters.length) (hst : st = argsL.reverse ++ .ref a :: rest) (hW : (rest.map fun v => v.category).sum ≤ W) (hml : Ls.size = ml)
    (B : n0 ≤ h.size → Back l R w.p w.e w.below w.s w.as y 3 W (PreB R h rm (.ref a :: argsL).toArray) (PostB n0 rm Qc)) (hk : k + rm.cells = k') (hn : n + rm.slots = n') (hc : k' ≤ R.cells) (hs : n' ≤ R.slots)
    (G : ∀ (v : Option Value) (h' : Heap), Qc v h' → Go w l R n0 Y h' k' n' pc' Ls (v.toList ++ rest)) : Go w l R n0 Y h k n pc Ls st := by
  subst hp hk hn
  intro T locs X hT hn N
  obtain ⟨cq, q1, q2⟩ := E.cell
  obtain ⟨v, vm₁, ⟨TB, LB, kB, nB⟩, -, X', ⟨L, hQ, l1, l2, l3⟩, s'⟩ := X.privateBack C.hx C.hown (mvT C.hZ w1) (mvT C.hZ w2) w3 (Cond.privateMethod_at (mvP C.hZ w5 (args := #[]))) (mvT C.hZ w4) hy (B hn.1) (g := mkF w.m pc Ls st) rfl (by rw [C.hml]; exact hml) (Steps.refl _) (a := a) (by rw [hT]; exact q1) q2 (argsL := argsL) (rest := rest) hlen hst (by simpa using hW) (C.d hd) (fun vm₁ h₁ => ⟨rfl, hT, hc, hs⟩)
  dsimp only [Pt.U, Pt.locs, Pt.cells, Pt.slots] at X' l1 l2 l3 s' hQ
  subst l1 l2 l3
  obtain ⟨s₂, o, h1, h2⟩ := G v TB.heap hQ.1 TB _ X' rfl (own_grow hn (hT ▸ hQ.2.2)) (N.app hQ.2.1)
  exact ⟨s₂, o, s'.trans h1, h2⟩
theorem g_iface (C : Cx w Z own bytes ml rt nm R n0 Q Y) {ct : Nat} (w1 : (Jvm.Cond.methodLink own i y).before a0 Z = true) (w2 : (Jvm.Cond.declares y).before a0 Z = true) (w3 : (Jvm.Cond.interfaceMethod y.cls y.cls y.name y.desc).before a0 Z = true) (fa : ((Jvm.Cond.interfaceMethod y.cls y.cls y.name y.desc).onTables && (Jvm.Cond.interfaceMethod y.cls y.cls y.name y.desc).keepsFace) = true) (w4 : (Jvm.Cond.selects cl y y').before a0 Z = true) (w5 : (Jvm.Cond.instanceMethod y').before a0 Z = true) (w6 : (Jvm.Cond.publicMethod y').before a0 Z = true) (w7 : (Jvm.Cond.unhidden cl y.name y.desc).before a0 Z = true) (w8 : (Jvm.Cond.castable cl y.cls).before a0 Z = true) (hy : y.cls ≠ "java/lang/invoke/MethodHandle" ∧ y.cls ≠ "java/lang/invoke/VarHandle") (E : Exa Z h a cl)
    (hd : decode bytes pc = .ok (.invokeinterface i ct, 5)) (hp : pc + 5 = pc') (hlen : ∀ sig, parseMethodDescriptor y.desc = some sig → argsL.length = sig.parameters.length) (hst : st = argsL.reverse ++ .ref a :: rest) (hW : (rest.map fun v => v.category).sum ≤ W) (hml : Ls.size = ml)
    (B : n0 ≤ h.size → Back l R w.p w.e w.below w.s w.as y' 5 W (PreB R h rm (.ref a :: argsL).toArray) (PostB n0 rm Qc)) (hk : k + rm.cells = k') (hn : n + rm.slots = n') (hc : k' ≤ R.cells) (hs : n' ≤ R.slots)
    (G : ∀ (v : Option Value) (h' : Heap), Qc v h' → Go w l R n0 Y h' k' n' pc' Ls (v.toList ++ rest)) : Go w l R n0 Y h k n pc Ls st := by
  subst hp hk hn
  intro T locs X hT hn N
  obtain ⟨cq, kq, qa, qb, qc⟩ := isOf C.hZ hT E
  obtain ⟨v, vm₁, ⟨TB, LB, kB, nB⟩, -, X', ⟨L, hQ, l1, l2, l3⟩, s'⟩ := X.interfaceBack C.hx C.hown (mvT C.hZ w1) (mvT C.hZ w2) (mvT C.hZ w3 fa) (mvT C.hZ w4) (mvT C.hZ w5) (mvT C.hZ w6) (mvT C.hZ w7) (mvT C.hZ w8) hy (B hn.1) qa qb qc (g := mkF w.m pc Ls st) rfl (by rw [C.hml]; exact hml) (Steps.refl _) (argsL := argsL) (rest := rest) hlen hst (by simpa using hW) (C.d hd) (fun vm₁ h₁ => ⟨rfl, hT, hc, hs⟩)
  dsimp only [Pt.U, Pt.locs, Pt.cells, Pt.slots] at X' l1 l2 l3 s' hQ
  subst l1 l2 l3
  obtain ⟨s₂, o, h1, h2⟩ := G v TB.heap hQ.1 TB _ X' rfl (own_grow hn (hT ▸ hQ.2.2)) (N.app hQ.2.1)
  exact ⟨s₂, o, s'.trans h1, h2⟩
end Calls
end OwnKit
section OwnKit2
variable {w : Wk} {l : Launch} {R : Room} {Z : State} {a0 : Array Value} {own : String} {bytes : ByteArray} {ml : Nat} {rt : Option FieldType} {nm : String} {n0 : Nat} {Q : Option Value → Heap → Prop} {Y : State → Outcome → Prop} {h : Heap} {k n pc pc' : Nat} {Ls Ls' : Array Slot} {st rest : List Value} {a b : Addr} {ad : String} {ty : FieldType} {z : Int32} {f : Nat → Value} {h' : Heap}
theorem own_getD (f : Nat → Value) (m i : Nat) (d : Value) (hi : i < m) : ((List.range m).map f).getD i d = f i := by simp [List.getD, hi]
theorem g_clone (C : Cx w Z own bytes ml rt nm R n0 Q Y) {i W cap k' n' : Nat} (w1 : (Jvm.Cond.methodLink own i ⟨ad, "clone", "()Ljava/lang/Object;"⟩).before a0 Z = true) (w2 : (Jvm.Cond.sameMethod ad "java/lang/Object" "clone" "()Ljava/lang/Object;").before a0 Z = true) (w3 : (Jvm.Cond.native ⟨"java/lang/Object", "clone", "()Ljava/lang/Object;"⟩).before a0 Z = true) (w4 : (Jvm.Cond.instanceMethod ⟨"java/lang/Object", "clone", "()Ljava/lang/Object;"⟩).before a0 Z = true) (w5 : (Jvm.Cond.selects ad ⟨ad, "clone", "()Ljava/lang/Object;"⟩ ⟨"java/lang/Object", "clone", "()Ljava/lang/Object;"⟩).before a0 Z = true) (w6 : (Jvm.Cond.castable ad "java/lang/Cloneable").before a0 Z = true)
    (F : Arf Z h a ad ty z f) (hd : decode bytes pc = .ok (.invokevirtual i, 3)) (hp : pc + 3 = pc') (hml : Ls.size = ml) (hf : 1 ≤ R.frames) (hW : (rest.map fun v => v.category).sum ≤ W) (hl : W + 14 ≤ R.locals) (hcap : z.toNatClampNeg ≤ cap) (hk : k + 1 = k') (hn : n + cap = n') (hc : k' ≤ R.cells) (hs : n' ≤ R.slots)
    (G : ∀ (h' : Heap) (b : Addr), Ext h h' → h.size ≤ b → n0 ≤ b → Arf Z h' b ad ty z f → Go w l R n0 Y h' k' n' pc' Ls (.ref b :: rest)) : Go w l R n0 Y h k n pc Ls (.ref a :: rest) := by
  subst hp hk hn
  intro T locs X hT hn N
  obtain ⟨kc, V⟩ := F.arv .null
  obtain ⟨T', h', X', e', E, A, Ex, s'⟩ := cloneH X C.hx C.hZ C.hown w1 w2 w3 w4 w5 w6 hT V.arh F.1 (g := mkF w.m pc Ls (.ref a :: rest)) rfl (by rw [C.hml]; exact hml) rfl (C.d hd) hf (W := W) (by simpa using hW) hl hcap hc hs
  have A' : Arv Z h' h.size kc ty z ((List.range z.toNatClampNeg).map f) .null := A
  obtain ⟨s₂, o, h1, h2⟩ := G h' _ E (Nat.le_refl _) hn.1 ((Arf.of_arv Ex A').congr fun i hi => own_getD _ _ _ _ hi) T' locs X' e' (own_grow hn E.1) N
  exact ⟨s₂, o, s' _ h1, h2⟩
theorem own_acopy_list (f g : Nat → Value) (n m dp sp : Nat) (h : dp + m ≤ n) (i : Nat) (hi : i < n) :
    ((((List.range n).map g).take dp ++ (List.range m).map (fun j => ((List.range (sp + m)).map f).getD (sp + j) .null)) ++ ((List.range n).map g).drop (dp + m)).getD i .null = if dp ≤ i ∧ i < dp + m then f (sp + (i - dp)) else g i := by
  have l1 : (((List.range n).map g).take dp).length = dp := by simp; omega
  by_cases c1 : i < dp
  · rw [if_neg (by omega)]
    simp only [List.getD, List.getElem?_append, l1, List.length_append, List.length_map, List.length_range]
    simp [c1, show i < dp + m by omega, hi, List.getElem?_take]
  · by_cases c2 : i < dp + m
    · rw [if_pos (by omega)]
      simp only [List.getD, List.getElem?_append, l1, List.length_append, List.length_map, List.length_range]
      simp [c1, c2, show i - dp < m by omega, show sp + (i - dp) < sp + m by omega]
    · rw [if_neg (by omega)]
      simp only [List.getD, List.getElem?_append, l1, List.length_append, List.length_map, List.length_range]
      simp [c2, List.getElem?_drop, show dp + m + (i - (dp + m)) = i by omega, hi]
theorem g_acopy (C : Cx w Z own bytes ml rt nm R n0 Q Y) {i W : Nat} {ad' : String} {g : Nat → Value} {z' sp dp m : Int32} (w1 : (Jvm.Cond.methodLink own i Jvm.Stand.acN).before a0 Z = true) (w2 : (Jvm.Cond.native Jvm.Stand.acN).before a0 Z = true) (w3 : (Jvm.Cond.static Jvm.Stand.acN).before a0 Z = true) (w4 : (Jvm.Cond.initialized "java/lang/System").before a0 Z = true)
    (A : Arf Z h a ad ty z f) (B : Arf Z h b ad' ty z' g) (hty : refKind ty = false) (h1 : ¬ sp < 0) (h2 : ¬ dp < 0) (h3 : ¬ m < 0) (h4 : sp.toNatClampNeg + m.toNatClampNeg ≤ z.toNatClampNeg) (h5 : dp.toNatClampNeg + m.toNatClampNeg ≤ z'.toNatClampNeg) (ge : n0 ≤ b)
    (hd : decode bytes pc = .ok (.invokestatic i, 3)) (hp : pc + 3 = pc') (hml : Ls.size = ml) (hf : 1 ≤ R.frames) (hW : (rest.map fun v => v.category).sum ≤ W) (hl : W + 18 ≤ R.locals)
    (G : ∀ h' : Heap, Keep h h' [b] → Arf Z h' b ad' ty z' (fun i => if dp.toNatClampNeg ≤ i ∧ i < dp.toNatClampNeg + m.toNatClampNeg then f (sp.toNatClampNeg + (i - dp.toNatClampNeg)) else g i) → Go w l R n0 Y h' k n pc' Ls rest) : Go w l R n0 Y h k n pc Ls (.int m :: .int dp :: .ref b :: .int sp :: .ref a :: rest) := by
  subst hp
  intro T locs X hT hn N
  obtain ⟨kc, V⟩ := A.arv .null
  obtain ⟨kd, U⟩ := B.arv .null
  obtain ⟨T', h', L, X', e', N', K, A', s'⟩ := cpA X C.hx C.hZ C.hown w1 w2 w3 w4 hT V U (Or.inl ⟨rfl, hty⟩) h1 h2 h3 h4 h5 rfl (by simpa using h5) N ge (g := mkF w.m pc Ls (.int m :: .int dp :: .ref b :: .int sp :: .ref a :: rest)) rfl (by rw [C.hml]; exact hml) rfl (C.d hd) hf (W := W) (by simpa using hW) (by rw [show nativeFrameWords "java/lang/System" "arraycopy" 5 = 7 from by decide]; exact hl)
  have F := (Arf.of_arv (B.1.keep K) A')
  have F' : Arf Z h' b ad' ty z' (fun i => if dp.toNatClampNeg ≤ i ∧ i < dp.toNatClampNeg + m.toNatClampNeg then f (sp.toNatClampNeg + (i - dp.toNatClampNeg)) else g i) := by
    refine F.congr fun i hi => ?_
    show _ = if dp.toNatClampNeg ≤ i ∧ i < dp.toNatClampNeg + m.toNatClampNeg then f (sp.toNatClampNeg + (i - dp.toNatClampNeg)) else g i
    rw [← own_acopy_list f g z'.toNatClampNeg m.toNatClampNeg dp.toNatClampNeg sp.toNatClampNeg h5 i hi]
    congr 2
    congr 1
    apply List.map_congr_left
    intro j hj
    have hj' := List.mem_range.mp hj
    rw [own_getD _ _ _ _ (by omega), own_getD _ _ _ _ (by omega)]
  obtain ⟨s₂, o, g1, g2⟩ := G h' K F' T' L X' e' (own_grow hn K.1) N'
  exact ⟨s₂, o, s' _ g1, g2⟩
end OwnKit2
theorem n32_toInt {n : Nat} (h : n < 2147483648) : (Int32.ofNat n).toInt = n := Int32.toInt_ofNat_of_lt (by omega)
theorem n32_nat {n : Nat} (h : n < 2147483648) : (Int32.ofNat n).toNatClampNeg = n := by rw [Int32.toNatClampNeg, n32_toInt h]; rfl
theorem n32_nn {n : Nat} (h : n < 2147483648) : ¬ Int32.ofNat n < 0 := by
  rw [Int32.lt_iff_toInt_lt, n32_toInt h, show (0 : Int32).toInt = 0 from rfl]; omega
theorem n32_lt {i n : Nat} (h : i < n) (hn : n < 2147483648) : Int32.ofNat i < Int32.ofNat n := by
  rw [Int32.lt_iff_toInt_lt, n32_toInt hn, n32_toInt (by omega)]; omega
theorem n32_ge {i n : Nat} (h : n ≤ i) (hn : i < 2147483648) : ¬ Int32.ofNat i < Int32.ofNat n := by
  rw [Int32.lt_iff_toInt_lt, n32_toInt hn, n32_toInt (by omega)]; omega
theorem n32_succ (i : Nat) : Int32.ofNat i + (1 : Int32) = Int32.ofNat (i + 1) := (Int32.ofNat_add i 1).symm
theorem n32_of {z : Int32} (h : ¬ z < 0) : z = Int32.ofNat z.toNatClampNeg := by
  rw [Int32.lt_iff_toInt_lt, show (0 : Int32).toInt = 0 from rfl] at h
  have r := rng32 z
  rw [← Int32.toInt_inj, n32_toInt (by simp only [Int32.toNatClampNeg]; omega)]
  simp only [Int32.toNatClampNeg]; omega
theorem n32_lit {z : Int32} {n : Nat} (h : z.toInt = n) : z.toNatClampNeg = n := by simp only [Int32.toNatClampNeg]; omega
section OwnDbl
variable {w : Wk} {l : Launch} {R : Room} {Z : State} {a0 : Array Value} {own : String} {bytes : ByteArray} {ml : Nat} {rt : Option FieldType} {nm : String} {n0 : Nat} {Q : Option Value → Heap → Prop} {Y : State → Outcome → Prop} {h : Heap} {k n pc pc' : Nat} {Ls Ls' : Array Slot} {st rest : List Value} {a : Addr}
theorem g_dconst0 (C : Cx w Z own bytes ml rt nm R n0 Q Y) (hd : decode bytes pc = .ok (.dconst 0, 1)) (hp : pc + 1 = pc') (G : Go w l R n0 Y h k n pc' Ls (.double FP.dconst0 :: st)) : Go w l R n0 Y h k n pc Ls st := by
  subst hp; refine Go.stand (fun T t locs X hT K => ?_) G
  have hx := C.hx
  have hd' := C.d hd
  jvm_step X.here [X.here.top, hx, hd', dconst.wp_sem]
  exact K
theorem g_dconst1 (C : Cx w Z own bytes ml rt nm R n0 Q Y) (hd : decode bytes pc = .ok (.dconst 1, 1)) (hp : pc + 1 = pc') (G : Go w l R n0 Y h k n pc' Ls (.double FP.dconst1 :: st)) : Go w l R n0 Y h k n pc Ls st := by
  subst hp; refine Go.stand (fun T t locs X hT K => ?_) G
  have hx := C.hx
  have hd' := C.d hd
  jvm_step X.here [X.here.top, hx, hd', dconst.wp_sem]
  exact K
theorem g_i2d (C : Cx w Z own bytes ml rt nm R n0 Q Y) {x : Int32} (hd : decode bytes pc = .ok (.i2d, 1)) (hp : pc + 1 = pc') (G : Go w l R n0 Y h k n pc' Ls (.double (FP.i2d x) :: rest)) : Go w l R n0 Y h k n pc Ls (.int x :: rest) := by
  subst hp; refine Go.stand (fun T t locs X hT K => ?_) G
  have hx := C.hx
  have hd' := C.d hd
  jvm_step X.here [X.here.top, hx, hd']
  exact K
theorem g_ddiv (C : Cx w Z own bytes ml rt nm R n0 Q Y) {x y : UInt64} (hr : FP.ddiv x y &&& 0x7fffffffffffffff ≤ 0x7ff0000000000000) (hd : decode bytes pc = .ok (.ddiv, 1)) (hp : pc + 1 = pc') (G : Go w l R n0 Y h k n pc' Ls (.double (FP.ddiv x y) :: rest)) : Go w l R n0 Y h k n pc Ls (.double y :: .double x :: rest) := by
  subst hp; refine Go.stand (fun T t locs X hT K => ?_) G
  have hx := C.hx
  have hd' := C.d hd
  jvm_step X.here [X.here.top, hx, hd', Op.ddiv.at_number X.here.top hr]
  exact K
theorem g_dadd (C : Cx w Z own bytes ml rt nm R n0 Q Y) {x y : UInt64} (hr : FP.dadd x y &&& 0x7fffffffffffffff ≤ 0x7ff0000000000000) (hd : decode bytes pc = .ok (.dadd, 1)) (hp : pc + 1 = pc') (G : Go w l R n0 Y h k n pc' Ls (.double (FP.dadd x y) :: rest)) : Go w l R n0 Y h k n pc Ls (.double y :: .double x :: rest) := by
  subst hp; refine Go.stand (fun T t locs X hT K => ?_) G
  have hx := C.hx
  have hd' := C.d hd
  jvm_step X.here [X.here.top, hx, hd', Op.dadd.at_number X.here.top hr]
  exact K
theorem g_dmul (C : Cx w Z own bytes ml rt nm R n0 Q Y) {x y : UInt64} (hr : FP.dmul x y &&& 0x7fffffffffffffff ≤ 0x7ff0000000000000) (hd : decode bytes pc = .ok (.dmul, 1)) (hp : pc + 1 = pc') (G : Go w l R n0 Y h k n pc' Ls (.double (FP.dmul x y) :: rest)) : Go w l R n0 Y h k n pc Ls (.double y :: .double x :: rest) := by
  subst hp; refine Go.stand (fun T t locs X hT K => ?_) G
  have hx := C.hx
  have hd' := C.d hd
  jvm_step X.here [X.here.top, hx, hd', Op.dmul.at_number X.here.top hr]
  exact K
theorem g_l2d (C : Cx w Z own bytes ml rt nm R n0 Q Y) {x : Int64} (hd : decode bytes pc = .ok (.l2d, 1)) (hp : pc + 1 = pc') (G : Go w l R n0 Y h k n pc' Ls (.double (FP.l2d x) :: rest)) : Go w l R n0 Y h k n pc Ls (.long x :: rest) := by
  subst hp; refine Go.stand (fun T t locs X hT K => ?_) G
  have hx := C.hx
  have hd' := C.d hd
  jvm_step X.here [X.here.top, hx, hd']
  exact K
theorem g_ldc2D (C : Cx w Z own bytes ml rt nm R n0 Q Y) {i : Nat} {v : UInt64} (w1 : (Jvm.Cond.constantDouble own i v).before a0 Z = true) (hd : decode bytes pc = .ok (.ldc2_w i, 3)) (hp : pc + 3 = pc') (G : Go w l R n0 Y h k n pc' Ls (.double v :: st)) : Go w l R n0 Y h k n pc Ls st := by
  subst hp; exact Go.stand (fun T t locs X hT K => X.ldc2DoubleC C.hx C.hown (mvT C.hZ w1) (g := mkF w.m pc Ls st) rfl (C.d hd) _ K) G
theorem g_dcmp (C : Cx w Z own bytes ml rt nm R n0 Q Y) {x y : UInt64} {op : CmpOp} (hd : decode bytes pc = .ok (.dcmp op, 1)) (hp : pc + 1 = pc') (G : Go w l R n0 Y h k n pc' Ls (.int (cmpValue (FP.dcmp x y) op) :: rest)) : Go w l R n0 Y h k n pc Ls (.double y :: .double x :: rest) := by
  subst hp; refine Go.stand (fun T t locs X hT K => ?_) G
  have hx := C.hx
  have hd' := C.d hd
  jvm_step X.here [X.here.top, hx, hd', dcmp.wp_sem]
  exact K
theorem g_dloadN (C : Cx w Z own bytes ml rt nm R n0 Q Y) {i : Fin 4} {v : UInt64} (hd : decode bytes pc = .ok (.dload_n i, 1)) (hp : pc + 1 = pc') (hl : Ls[i.val]? = some (.val (.double v))) (G : Go w l R n0 Y h k n pc' Ls (.double v :: st)) : Go w l R n0 Y h k n pc Ls st := by
  subst hp; refine Go.stand (fun T t locs X hT K => ?_) G
  have hx := C.hx
  have hd' := C.d hd
  jvm_step X.here [X.here.top, hx, hd', hl]
  exact K
theorem g_dload (C : Cx w Z own bytes ml rt nm R n0 Q Y) {i : Nat} {v : UInt64} (hd : decode bytes pc = .ok (.dload i, 2)) (hp : pc + 2 = pc') (hl : Ls[i]? = some (.val (.double v))) (G : Go w l R n0 Y h k n pc' Ls (.double v :: st)) : Go w l R n0 Y h k n pc Ls st := by
  subst hp; refine Go.stand (fun T t locs X hT K => ?_) G
  have hx := C.hx
  have hd' := C.d hd
  jvm_step X.here [X.here.top, hx, hd', hl]
  exact K
theorem g_dstoreN (C : Cx w Z own bytes ml rt nm R n0 Q Y) {i : Fin 4} {x : UInt64} (hd : decode bytes pc = .ok (.dstore_n i, 1)) (hp : pc + 1 = pc') (hl : storeLocals Ls i.val (.double x) = some Ls') (G : Go w l R n0 Y h k n pc' Ls' rest) : Go w l R n0 Y h k n pc Ls (.double x :: rest) := by
  subst hp; refine Go.stand (fun T t locs X hT K => ?_) G
  have hx := C.hx
  have hd' := C.d hd
  jvm_step X.here [X.here.top, hx, hd', hl]
  exact K
theorem g_dstore (C : Cx w Z own bytes ml rt nm R n0 Q Y) {i : Nat} {x : UInt64} (hd : decode bytes pc = .ok (.dstore i, 2)) (hp : pc + 2 = pc') (hl : storeLocals Ls i (.double x) = some Ls') (G : Go w l R n0 Y h k n pc' Ls' rest) : Go w l R n0 Y h k n pc Ls (.double x :: rest) := by
  subst hp; refine Go.stand (fun T t locs X hT K => ?_) G
  have hx := C.hx
  have hd' := C.d hd
  jvm_step X.here [X.here.top, hx, hd', hl]
  exact K
theorem g_retD (C : Cx w Z own bytes ml rt nm R n0 Q Y) (hr : rt = some .double) (hd : decode bytes pc = .ok (.dreturn, 1)) {z : UInt64} (hQ : Q (some (.double z)) h) (hc : k ≤ R.cells) (hs : n ≤ R.slots) : Go w l R n0 Y h k n pc Ls (.double z :: rest) :=
  Go.leave C.lv (v := some (.double z)) (fun q => by rw [C.ret, hr] at q; cases q) C.locks hQ hc hs (fun T locs fs X hl => by
    have hx := C.hx
    have hd' := C.d hd
    have hr' := C.ret.trans hr
    jvm_step X.here [X.here.top, hx, hd', X.method', hr', narrow]
    first | (intro acts; rw [hl _ acts rfl rfl rfl]) | rw [hl _ _ rfl rfl rfl]
    exact Steps.refl _)
end OwnDbl

theorem d1_0 : decode prog_37_method_1_code 0 = .ok (.aload_n 0, 1) := by decide +kernel
theorem d1_1 : decode prog_37_method_1_code 1 = .ok (.invokespecial 1, 3) := by decide +kernel
theorem d1_4 : decode prog_37_method_1_code 4 = .ok (.aload_n 0, 1) := by decide +kernel
theorem d1_5 : decode prog_37_method_1_code 5 = .ok (.aload_n 1, 1) := by decide +kernel
theorem d1_6 : decode prog_37_method_1_code 6 = .ok (.invokevirtual 7, 3) := by decide +kernel
theorem d1_9 : decode prog_37_method_1_code 9 = .ok (.checkcast 8, 3) := by decide +kernel
theorem d1_12 : decode prog_37_method_1_code 12 = .ok (.putfield 13, 3) := by decide +kernel
theorem d1_15 : decode prog_37_method_1_code 15 = .ok (.aload_n 0, 1) := by decide +kernel
theorem d1_16 : decode prog_37_method_1_code 16 = .ok (.iload_n 2, 1) := by decide +kernel
theorem d1_17 : decode prog_37_method_1_code 17 = .ok (.putfield 18, 3) := by decide +kernel
theorem d1_20 : decode prog_37_method_1_code 20 = .ok (.return_, 1) := by decide +kernel
theorem d3_0 : decode prog_37_method_7_code 0 = .ok (.dconst 0, 1) := by decide +kernel
theorem d3_1 : decode prog_37_method_7_code 1 = .ok (.dstore_n 1, 1) := by decide +kernel
theorem d3_2 : decode prog_37_method_7_code 2 = .ok (.iconst 0, 1) := by decide +kernel
theorem d3_3 : decode prog_37_method_7_code 3 = .ok (.istore_n 3, 1) := by decide +kernel
theorem d3_4 : decode prog_37_method_7_code 4 = .ok (.iconst 1, 1) := by decide +kernel
theorem d3_5 : decode prog_37_method_7_code 5 = .ok (.istore 4, 2) := by decide +kernel
theorem d3_7 : decode prog_37_method_7_code 7 = .ok (.iload 4, 2) := by decide +kernel
theorem d3_9 : decode prog_37_method_7_code 9 = .ok (.aload_n 0, 1) := by decide +kernel
theorem d3_10 : decode prog_37_method_7_code 10 = .ok (.getfield 13, 3) := by decide +kernel
theorem d3_13 : decode prog_37_method_7_code 13 = .ok (.arraylength, 1) := by decide +kernel
theorem d3_14 : decode prog_37_method_7_code 14 = .ok (.if_icmp .gt 33, 3) := by decide +kernel
theorem d3_17 : decode prog_37_method_7_code 17 = .ok (.aload_n 0, 1) := by decide +kernel
theorem d3_18 : decode prog_37_method_7_code 18 = .ok (.getfield 13, 3) := by decide +kernel
theorem d3_21 : decode prog_37_method_7_code 21 = .ok (.iload 4, 2) := by decide +kernel
theorem d3_23 : decode prog_37_method_7_code 23 = .ok (.iconst 1, 1) := by decide +kernel
theorem d3_24 : decode prog_37_method_7_code 24 = .ok (.isub, 1) := by decide +kernel
theorem d3_25 : decode prog_37_method_7_code 25 = .ok (.baload, 1) := by decide +kernel
theorem d3_26 : decode prog_37_method_7_code 26 = .ok (.ifCond .eq 15, 3) := by decide +kernel
theorem d3_29 : decode prog_37_method_7_code 29 = .ok (.iinc 3 1, 3) := by decide +kernel
theorem d3_32 : decode prog_37_method_7_code 32 = .ok (.dload_n 1, 1) := by decide +kernel
theorem d3_33 : decode prog_37_method_7_code 33 = .ok (.iload_n 3, 1) := by decide +kernel
theorem d3_34 : decode prog_37_method_7_code 34 = .ok (.i2d, 1) := by decide +kernel
theorem d3_35 : decode prog_37_method_7_code 35 = .ok (.iload 4, 2) := by decide +kernel
theorem d3_37 : decode prog_37_method_7_code 37 = .ok (.i2d, 1) := by decide +kernel
theorem d3_38 : decode prog_37_method_7_code 38 = .ok (.ddiv, 1) := by decide +kernel
theorem d3_39 : decode prog_37_method_7_code 39 = .ok (.dadd, 1) := by decide +kernel
theorem d3_40 : decode prog_37_method_7_code 40 = .ok (.dstore_n 1, 1) := by decide +kernel
theorem d3_41 : decode prog_37_method_7_code 41 = .ok (.iinc 4 1, 3) := by decide +kernel
theorem d3_44 : decode prog_37_method_7_code 44 = .ok (.goto (-37), 3) := by decide +kernel
theorem d3_47 : decode prog_37_method_7_code 47 = .ok (.dload_n 1, 1) := by decide +kernel
theorem d3_48 : decode prog_37_method_7_code 48 = .ok (.aload_n 0, 1) := by decide +kernel
theorem d3_49 : decode prog_37_method_7_code 49 = .ok (.getfield 18, 3) := by decide +kernel
theorem d3_52 : decode prog_37_method_7_code 52 = .ok (.i2d, 1) := by decide +kernel
theorem d3_53 : decode prog_37_method_7_code 53 = .ok (.ddiv, 1) := by decide +kernel
theorem d3_54 : decode prog_37_method_7_code 54 = .ok (.dreturn, 1) := by decide +kernel
theorem pd_0 : parseMethodDescriptor "([ZI)V" = some ⟨[(.array .boolean), .int], none⟩ := by decide +kernel
theorem pd_1 : parseMethodDescriptor "()D" = some ⟨[], some .double⟩ := by decide +kernel
/-! ### rounding to a double, as two inequalities on whole numbers -/
theorem own_settle1 {s : Bool} {c : Nat} {q : Int} (h : c < 9007199254740992) (hq : q ≤ 971) : FP.Core.settle FP.Core.b64 s c q = .fin s c q := by
  have p53 : 2 ^ FP.Core.b64.p = 9007199254740992 := by decide
  have qx : FP.Core.b64.qmax = 971 := by decide
  have e1 : FP.Core.settle FP.Core.b64 s c q = FP.Core.bound FP.Core.b64 s c q := if_pos (by rw [p53]; exact h)
  have e2 : FP.Core.bound FP.Core.b64 s c q = .fin s c q := if_pos (by rw [qx]; exact hq)
  exact e1.trans e2
theorem own_settle2 {s : Bool} {q : Int} (hq : q + 1 ≤ 971) : FP.Core.settle FP.Core.b64 s 9007199254740992 q = .fin s 4503599627370496 (q + 1) := by
  have p53 : 2 ^ FP.Core.b64.p = 9007199254740992 := by decide
  have qx : FP.Core.b64.qmax = 971 := by decide
  have tt : FP.Core.b64.tails = 4503599627370496 := by decide
  have e1 : FP.Core.settle FP.Core.b64 s 9007199254740992 q = FP.Core.bound FP.Core.b64 s FP.Core.b64.tails (q + 1) := if_neg (by rw [p53]; exact Nat.lt_irrefl _)
  have e2 : FP.Core.bound FP.Core.b64 s FP.Core.b64.tails (q + 1) = .fin s FP.Core.b64.tails (q + 1) := if_pos (by rw [qx]; exact hq)
  rw [e1, e2, tt]
theorem own_round {s : Bool} {A B : Nat} (hA : 0 < A) (hB : 0 < B) (a b g m : Nat) (hg : g ≤ 1000) (hm : m ≤ 52) (h1 : A * 2 ^ a < B * 2 ^ (b + m)) (h2 : B * 2 ^ b ≤ A * 2 ^ (a + g)) {e : Int} (he : e = (a : Int) - (b : Int)) :
    ∃ c k : Nat, FP.Core.roundRatio FP.Core.b64 s A B e = .fin s c (-(k : Int)) ∧ 4503599627370496 ≤ c ∧ c < 9007199254740992 ∧ k ≤ g + 52 ∧ 52 ≤ m + k ∧
      c * (B * 2 ^ b) * 9007199254740992 ≤ A * 2 ^ (a + k) * 9007199254740993 ∧ A * 2 ^ (a + k) * 9007199254740991 ≤ c * (B * 2 ^ b) * 9007199254740992 := by
  have p64 : (FP.Core.b64.p : Int) = 53 := rfl
  have qm : FP.Core.b64.qmin = -1074 := by decide
  have g0 := FP.Core.quantum_ge FP.Core.b64 A B e
  have g1 := FP.Core.quantum_below (f := FP.Core.b64) hA hB e
  have g2 := FP.Core.quantum_not_below (f := FP.Core.b64) hA hB e
  have up : FP.Core.Below A B (((b + m : Nat) : Int) - (a : Int)) := (FP.Core.below_iff A B (b + m) a).mpr h1
  have dn : ¬ FP.Core.Below A B ((b : Int) - ((a + g : Nat) : Int)) := fun q => absurd ((FP.Core.below_iff A B b (a + g)).mp q) (Nat.not_lt.mpr h2)
  have e0 : FP.Core.roundRatio FP.Core.b64 s A B e = FP.Core.settle FP.Core.b64 s (FP.Core.nearest (FP.Core.unitsNum A e (FP.Core.quantum FP.Core.b64 A B e)) (FP.Core.unitsDen B e (FP.Core.quantum FP.Core.b64 A B e))) (FP.Core.quantum FP.Core.b64 A B e) := if_neg (Nat.ne_of_gt hA)
  rw [e0]
  rw [p64] at g1 g2
  rw [qm] at g0 g2
  clear e0
  generalize FP.Core.quantum FP.Core.b64 A B e = q at g0 g1 g2 ⊢
  have l1 := FP.Core.lt_of_below dn g1
  have nb : ¬ FP.Core.Below A B (q - e + (53 - 1)) := g2.resolve_left (by omega)
  have l2 := FP.Core.lt_of_below nb up
  obtain ⟨k, hk⟩ : ∃ k : Nat, q = -(k : Int) := ⟨(-q).toNat, by omega⟩
  subst hk
  have k1 : 1 ≤ k ∧ k ≤ g + 52 ∧ 53 ≤ m + k := by omega
  clear l1 l2 g2 g0 up dn
  have e1 : -(k : Int) - e + 53 = ((b + 53 : Nat) : Int) - ((a + k : Nat) : Int) := by omega
  have e2 : -(k : Int) - e + (53 - 1) = ((b + 52 : Nat) : Int) - ((a + k : Nat) : Int) := by omega
  rw [e1, FP.Core.below_iff, Nat.pow_add 2 b 53] at g1
  rw [e2, FP.Core.below_iff, Nat.pow_add 2 b 52] at nb
  have hY : 0 < B * 2 ^ b := Nat.mul_pos hB (Nat.two_pow_pos _)
  have c1 : FP.Core.nearest (FP.Core.unitsNum A e (-(k : Int))) (FP.Core.unitsDen B e (-(k : Int))) = FP.Core.nearest (A * 2 ^ (a + k)) (B * 2 ^ b) := by
    refine FP.Core.nearest_congr (FP.Core.unitsDen_pos hB _ _) hY ?_
    show A * 2 ^ (e - -(k : Int)).toNat * (B * 2 ^ b) = A * 2 ^ (a + k) * (B * 2 ^ (-(k : Int) - e).toNat)
    have x : (e - -(k : Int)).toNat + b = (a + k) + (-(k : Int) - e).toNat := by omega
    calc A * 2 ^ (e - -(k : Int)).toNat * (B * 2 ^ b) = A * B * (2 ^ (e - -(k : Int)).toNat * 2 ^ b) := by ac_rfl
      _ = A * B * 2 ^ ((e - -(k : Int)).toNat + b) := by rw [Nat.pow_add 2 _ b]
      _ = A * B * 2 ^ ((a + k) + (-(k : Int) - e).toNat) := by rw [x]
      _ = A * B * (2 ^ (a + k) * 2 ^ (-(k : Int) - e).toNat) := by rw [Nat.pow_add 2 (a + k)]
      _ = A * 2 ^ (a + k) * (B * 2 ^ (-(k : Int) - e).toNat) := by ac_rfl
  rw [c1]
  obtain ⟨X, hX⟩ : ∃ X, X = A * 2 ^ (a + k) := ⟨_, rfl⟩
  obtain ⟨y, hy⟩ : ∃ y, y = B * 2 ^ b := ⟨_, rfl⟩
  have n1 : X < 9007199254740992 * y := by
    rw [hX, hy]; refine Nat.lt_of_lt_of_eq g1 ?_
    rw [show (2 : Nat) ^ 53 = 9007199254740992 from rfl]; ac_rfl
  have n2 : 4503599627370496 * y ≤ X := by
    rw [hX, hy]; refine Nat.le_trans (Nat.le_of_eq ?_) (Nat.le_of_not_lt nb)
    rw [show (2 : Nat) ^ 52 = 4503599627370496 from rfl]; ac_rfl
  rw [← hX, ← hy]
  rw [← hy] at hY
  have M1 : 4503599627370496 ≤ FP.Core.nearest X y := FP.Core.nearest_ge hY n2
  have M2 : FP.Core.nearest X y ≤ 9007199254740992 := FP.Core.nearest_le hY (Nat.le_of_lt n1)
  obtain ⟨s1, s2, -⟩ := FP.Core.nearest_spec X y hY
  generalize FP.Core.nearest X y = c0 at M1 M2 s1 s2 ⊢
  have s1' : 2 * X ≤ 2 * (c0 * y) + y := by
    have : (2 * c0 + 1) * y = 2 * (c0 * y) + y := by rw [Nat.add_mul, Nat.one_mul, Nat.mul_assoc]
    omega
  have s2' : 2 * (c0 * y) ≤ 2 * X + y := by
    rw [← Nat.mul_assoc]; exact s2
  clear s1 s2
  by_cases hc : c0 < 9007199254740992
  · refine ⟨c0, k, own_settle1 hc (by omega), M1, hc, by omega, by omega, ?_, ?_⟩
    · rw [← hX]; generalize c0 * y = u at s1' s2' ⊢; omega
    · rw [← hX]; generalize c0 * y = u at s1' s2' ⊢; omega
  · obtain rfl : c0 = 9007199254740992 := by omega
    have hX2 : X = 2 * (A * 2 ^ (a + (k - 1))) := by
      rw [hX, show a + k = (a + (k - 1)) + 1 by omega, Nat.pow_succ]; ac_rfl
    refine ⟨4503599627370496, k - 1, ?_, Nat.le_refl _, by decide, by omega, by omega, ?_, ?_⟩
    · rw [own_settle2 (by omega), show -(k : Int) + 1 = -((k - 1 : Nat) : Int) by omega]
    · generalize A * 2 ^ (a + (k - 1)) = X' at hX2 ⊢; omega
    · generalize A * 2 ^ (a + (k - 1)) = X' at hX2 ⊢; omega
theorem own_mul2 {cA cB cR cM cS P Q x y z u v : Nat} (hx : 0 < cA * x) (h1 : cA * (cR * z) * P ≤ cS * (y * x) * Q) (h2 : cB * (x * v) * P ≤ cA * cM * u * Q) : cB * cR * (v * z) * (P * P) ≤ cM * cS * (u * y) * (Q * Q) := by
  have h := Nat.mul_le_mul h1 h2
  have e1 : cA * (cR * z) * P * (cB * (x * v) * P) = (cA * x) * (cB * cR * (v * z) * (P * P)) := by ac_rfl
  have e2 : cS * (y * x) * Q * (cA * cM * u * Q) = (cA * x) * (cM * cS * (u * y) * (Q * Q)) := by ac_rfl
  rw [e1, e2] at h
  exact Nat.le_of_mul_le_mul_left h hx
theorem own_mul2' {cA cB cR cM cS P Q x y z u v : Nat} (hx : 0 < cA * x) (h1 : cS * (y * x) * Q ≤ cA * (cR * z) * P) (h2 : cA * cM * u * Q ≤ cB * (x * v) * P) : cM * cS * (u * y) * (Q * Q) ≤ cB * cR * (v * z) * (P * P) := by
  have h := Nat.mul_le_mul h1 h2
  have e1 : cA * (cR * z) * P * (cB * (x * v) * P) = (cA * x) * (cB * cR * (v * z) * (P * P)) := by ac_rfl
  have e2 : cS * (y * x) * Q * (cA * cM * u * Q) = (cA * x) * (cM * cS * (u * y) * (Q * Q)) := by ac_rfl
  rw [e1, e2] at h
  exact Nat.le_of_mul_le_mul_left h hx
theorem own_mul3 {D E W N T t P Q PP QQ : Nat} (hx : 0 < D * E) (h1 : D * W * PP ≤ N * E * QQ) (h2 : T * E * P ≤ D * t * Q) : T * W * (PP * P) ≤ N * t * (QQ * Q) := by
  have h := Nat.mul_le_mul h1 h2
  have e1 : D * W * PP * (T * E * P) = (D * E) * (T * W * (PP * P)) := by ac_rfl
  have e2 : N * E * QQ * (D * t * Q) = (D * E) * (N * t * (QQ * Q)) := by ac_rfl
  rw [e1, e2] at h
  exact Nat.le_of_mul_le_mul_left h hx
theorem own_mul3' {D E W N T t P Q PP QQ : Nat} (hx : 0 < D * E) (h1 : N * E * QQ ≤ D * W * PP) (h2 : D * t * Q ≤ T * E * P) : N * t * (QQ * Q) ≤ T * W * (PP * P) := by
  have h := Nat.mul_le_mul h1 h2
  have e1 : D * W * PP * (T * E * P) = (D * E) * (T * W * (PP * P)) := by ac_rfl
  have e2 : N * E * QQ * (D * t * Q) = (D * E) * (N * t * (QQ * Q)) := by ac_rfl
  rw [e1, e2] at h
  exact Nat.le_of_mul_le_mul_left h hx
theorem own_cut1 {L W P N Q u t T : Nat} (ht : 0 < t) (h1 : L * W * P < N * Q * u) (h2 : N * t * Q ≤ T * W * P) : L * t < T * u := by
  have a : L * W * P * t < N * Q * u * t := Nat.mul_lt_mul_of_pos_right h1 ht
  have b : N * t * Q * u ≤ T * W * P * u := Nat.mul_le_mul_right _ h2
  have c : (W * P) * (L * t) < (W * P) * (T * u) := by
    calc (W * P) * (L * t) = L * W * P * t := by ac_rfl
      _ < N * Q * u * t := a
      _ = N * t * Q * u := by ac_rfl
      _ ≤ T * W * P * u := b
      _ = (W * P) * (T * u) := by ac_rfl
  exact Nat.lt_of_mul_lt_mul_left c
theorem own_cut2 {H W P N Q u t T : Nat} (ht : 0 < t) (h1 : N * Q * u < H * W * P) (h2 : T * W * P ≤ N * t * Q) : T * u < H * t := by
  have a : N * Q * u * t < H * W * P * t := Nat.mul_lt_mul_of_pos_right h1 ht
  have b : T * W * P * u ≤ N * t * Q * u := Nat.mul_le_mul_right _ h2
  have c : (W * P) * (T * u) < (W * P) * (H * t) := by
    calc (W * P) * (T * u) = T * W * P * u := by ac_rfl
      _ ≤ N * t * Q * u := b
      _ = N * Q * u * t := by ac_rfl
      _ < H * W * P * t := a
      _ = (W * P) * (H * t) := by ac_rfl
  exact Nat.lt_of_mul_lt_mul_left c
theorem own_i2d {rc : Int32} (h : 0 < rc.toInt) : ∃ c k : Nat, FP.Core.val64 (FP.i2d rc) = .fin false c (-(k : Int)) ∧ 4503599627370496 ≤ c ∧ c < 9007199254740992 ∧ k ≤ 52 := by
  have h1 := rc.toInt_lt
  have q1 : rc.toInt.natAbs * 2 ^ 0 < 1 * 2 ^ (0 + 31) := by
    show rc.toInt.natAbs * 1 < 1 * 2147483648
    omega
  have q2 : 1 * 2 ^ 0 ≤ rc.toInt.natAbs * 2 ^ (0 + 0) := by
    show 1 * 1 ≤ rc.toInt.natAbs * 1
    omega
  obtain ⟨c, k, e, c1, c2, k1, -, -, -⟩ := own_round (s := false) (A := rc.toInt.natAbs) (B := 1) (by omega) (by decide) 0 0 0 31 (by decide) (by decide) q1 q2 (e := 0) rfl
  refine ⟨c, k, ?_, c1, c2, by omega⟩
  refine (FP.Core.val64_i2d rc).trans ?_
  show FP.Core.roundRatio FP.Core.b64 (decide (rc.toInt < 0)) rc.toInt.natAbs 1 0 = _
  rw [show decide (rc.toInt < 0) = false from decide_eq_false (by omega)]
  exact e
/-- a quotient, times a number, times the divisor again -/
theorem own_chain {S R M : UInt64} {cS kS cR kR cM : Nat} (hS : FP.Core.val64 S = .fin false cS (-(kS : Int))) (hR : FP.Core.val64 R = .fin false cR (-(kR : Int))) (hM : FP.Core.val64 M = .fin false cM (-37))
    (s1 : 4503599627370496 ≤ cS) (s2 : cS < 9007199254740992) (s3 : 50 ≤ kS) (s4 : kS ≤ 60) (r1 : 4503599627370496 ≤ cR) (r2 : cR < 9007199254740992) (r3 : kR ≤ 52) (m1 : 4503599627370496 ≤ cM) (m2 : cM < 9007199254740992) :
    ∃ cA kA cB kB cT kT : Nat, FP.Core.val64 (FP.ddiv S R) = .fin false cA (-(kA : Int)) ∧ FP.Core.val64 (FP.dmul (FP.ddiv S R) M) = .fin false cB (-(kB : Int)) ∧ FP.Core.val64 (FP.dmul (FP.dmul (FP.ddiv S R) M) R) = .fin false cT (-(kT : Int)) ∧
      cT * (2 ^ 37 * 2 ^ kS) * (9007199254740992 * 9007199254740992 * 9007199254740992) ≤ cM * cS * 2 ^ kT * (9007199254740993 * 9007199254740993 * 9007199254740993) ∧
      cM * cS * 2 ^ kT * (9007199254740991 * 9007199254740991 * 9007199254740991) ≤ cT * (2 ^ 37 * 2 ^ kS) * (9007199254740992 * 9007199254740992 * 9007199254740992) := by
  have hA1 : cS * 2 ^ kR < cR * 2 ^ (kS + 3) := by
    calc cS * 2 ^ kR < 9007199254740992 * 2 ^ kR := Nat.mul_lt_mul_of_pos_right s2 (Nat.two_pow_pos _)
      _ ≤ 9007199254740992 * 2 ^ 52 := Nat.mul_le_mul_left _ (Nat.pow_le_pow_right (by decide) r3)
      _ = 4503599627370496 * 2 ^ 53 := rfl
      _ ≤ cR * 2 ^ (kS + 3) := Nat.mul_le_mul r1 (Nat.pow_le_pow_right (by decide) (by omega))
  have hA2 : cR * 2 ^ kS ≤ cS * 2 ^ (kR + 61) := by
    calc cR * 2 ^ kS ≤ 9007199254740992 * 2 ^ 60 := Nat.mul_le_mul (Nat.le_of_lt r2) (Nat.pow_le_pow_right (by decide) s4)
      _ = 4503599627370496 * 2 ^ 61 := rfl
      _ ≤ cS * 2 ^ (kR + 61) := Nat.mul_le_mul s1 (Nat.pow_le_pow_right (by decide) (by omega))
  obtain ⟨cA, kA, eA, a1, a2, a3, a4, a5, a6⟩ := own_round (s := false) (A := cS) (B := cR) (by omega) (by omega) kR kS 61 3 (by decide) (by decide) hA1 hA2 (e := -(kS : Int) - -(kR : Int)) (by omega)
  have vA : FP.Core.val64 (FP.ddiv S R) = .fin false cA (-(kA : Int)) := by
    refine (FP.Core.val64_ddiv S R).trans ?_
    rw [hS, hR]
    show (if cR = 0 then _ else FP.Core.roundRatio FP.Core.b64 (false != false) cS cR (-(kS : Int) - -(kR : Int))) = _
    rw [if_neg (by omega)]; exact eA
  have hB1 : cA * cM * 2 ^ 0 < 1 * 2 ^ (kA + 37 + 20) := by
    calc cA * cM * 2 ^ 0 = cA * cM := Nat.mul_one _
      _ < 9007199254740992 * cM := Nat.mul_lt_mul_of_pos_right a2 (by omega)
      _ ≤ 9007199254740992 * 9007199254740992 := Nat.mul_le_mul_left _ (Nat.le_of_lt m2)
      _ = 2 ^ 106 := rfl
      _ ≤ 2 ^ (kA + 37 + 20) := Nat.pow_le_pow_right (by decide) (by omega)
      _ = 1 * 2 ^ (kA + 37 + 20) := (Nat.one_mul _).symm
  have hB2 : 1 * 2 ^ (kA + 37) ≤ cA * cM * 2 ^ (0 + 46) := by
    calc 1 * 2 ^ (kA + 37) = 2 ^ (kA + 37) := Nat.one_mul _
      _ ≤ 2 ^ 150 := Nat.pow_le_pow_right (by decide) (by omega)
      _ = 4503599627370496 * 4503599627370496 * 2 ^ (0 + 46) := rfl
      _ ≤ cA * cM * 2 ^ (0 + 46) := Nat.mul_le_mul_right _ (Nat.mul_le_mul a1 m1)
  obtain ⟨cB, kB, eB, b1, b2, b3, b4, b5, b6⟩ := own_round (s := false) (A := cA * cM) (B := 1) (Nat.mul_pos (by omega) (by omega)) (by decide) 0 (kA + 37) 46 20 (by decide) (by decide) hB1 hB2 (e := -(kA : Int) + -37) (by omega)
  have vB : FP.Core.val64 (FP.dmul (FP.ddiv S R) M) = .fin false cB (-(kB : Int)) := by
    refine (FP.Core.val64_dmul _ _).trans ?_
    rw [show FP.Core.val64 (FP.ddiv S R) = _ from vA, hM]
    show FP.Core.roundRatio FP.Core.b64 (false != false) (cA * cM) 1 (-(kA : Int) + -37) = _
    exact eB
  rw [Nat.pow_add 2 kR kA] at a5 a6
  rw [Nat.one_mul, Nat.pow_add 2 kA 37, Nat.zero_add] at b5 b6
  have hx : 0 < cA * 2 ^ kA := Nat.mul_pos (by omega) (Nat.two_pow_pos _)
  have ab1 := own_mul2 hx a5 b5
  have ab2 := own_mul2' hx a6 b6
  have hT1 : cB * cR * 2 ^ 0 < 1 * 2 ^ (kB + kR + 20) := by
    have hE : 0 < 2 ^ kB * 2 ^ kR := Nat.mul_pos (Nat.two_pow_pos _) (Nat.two_pow_pos _)
    have x2 : cM * cS * (2 ^ kB * 2 ^ kR) * (9007199254740993 * 9007199254740993) ≤ 9007199254740992 * 9007199254740992 * (2 ^ kB * 2 ^ kR) * (9007199254740993 * 9007199254740993) := Nat.mul_le_mul_right _ (Nat.mul_le_mul_right _ (Nat.mul_le_mul (Nat.le_of_lt m2) (Nat.le_of_lt s2)))
    have x1 : cB * cR * (2 ^ 37 * 2 ^ 50) * (9007199254740992 * 9007199254740992) ≤ cB * cR * (2 ^ 37 * 2 ^ kS) * (9007199254740992 * 9007199254740992) := Nat.mul_le_mul_right _ (Nat.mul_le_mul_left _ (Nat.mul_le_mul_left _ (Nat.pow_le_pow_right (by decide) s3)))
    have x3 := Nat.le_trans x1 (Nat.le_trans ab1 x2)
    have x4 : 2 ^ (kB + kR + 20) = 2 ^ kB * 2 ^ kR * 1048576 := by
      rw [Nat.pow_add 2 (kB + kR) 20, Nat.pow_add 2 kB kR]; first | done | rfl
    rw [x4, Nat.pow_zero, Nat.mul_one, Nat.one_mul]
    rw [show (2 : Nat) ^ 37 * 2 ^ 50 = 154742504910672534362390528 from rfl] at x3
    clear x1 x2 x4 ab1 ab2 a5 a6 b5 b6
    generalize 2 ^ kB * 2 ^ kR = E at hE x3 ⊢
    generalize cB * cR = D at x3 ⊢
    omega
  have hT2 : 1 * 2 ^ (kB + kR) ≤ cB * cR * 2 ^ (0 + 46) := by
    calc 1 * 2 ^ (kB + kR) = 2 ^ (kB + kR) := Nat.one_mul _
      _ ≤ 2 ^ 150 := Nat.pow_le_pow_right (by decide) (by omega)
      _ = 4503599627370496 * 4503599627370496 * 2 ^ (0 + 46) := rfl
      _ ≤ cB * cR * 2 ^ (0 + 46) := Nat.mul_le_mul_right _ (Nat.mul_le_mul b1 r1)
  obtain ⟨cT, kT, eT, t1, t2, t3, t4, t5, t6⟩ := own_round (s := false) (A := cB * cR) (B := 1) (Nat.mul_pos (by omega) (by omega)) (by decide) 0 (kB + kR) 46 20 (by decide) (by decide) hT1 hT2 (e := -(kB : Int) + -(kR : Int)) (by omega)
  have vT : FP.Core.val64 (FP.dmul (FP.dmul (FP.ddiv S R) M) R) = .fin false cT (-(kT : Int)) := by
    refine (FP.Core.val64_dmul _ _).trans ?_
    rw [show FP.Core.val64 (FP.dmul (FP.ddiv S R) M) = _ from vB, hR]
    show FP.Core.roundRatio FP.Core.b64 (false != false) (cB * cR) 1 (-(kB : Int) + -(kR : Int)) = _
    exact eT
  rw [Nat.one_mul, Nat.pow_add 2 kB kR, Nat.zero_add] at t5 t6
  have hx2 : 0 < cB * cR * (2 ^ kB * 2 ^ kR) := Nat.mul_pos (Nat.mul_pos (by omega) (by omega)) (Nat.mul_pos (Nat.two_pow_pos _) (Nat.two_pow_pos _))
  exact ⟨cA, kA, cB, kB, cT, kT, vA, vB, vT, own_mul3 hx2 ab1 t5, own_mul3' hx2 ab2 t6⟩
theorem own_cmplt {a b : Int} (h : a < b) : compare a b = .lt := by
  first
  | exact if_pos h
  | simp [compare, compareOfLessAndEq, h]
theorem own_order {c d i j : Nat} (h : c * 2 ^ j < d * 2 ^ i) : FP.Core.order (.fin false c (-(i : Int))) (.fin false d (-(j : Int))) = some .lt := by
  have key : c * 2 ^ (-(i : Int) - min (-(i : Int)) (-(j : Int))).toNat < d * 2 ^ (-(j : Int) - min (-(i : Int)) (-(j : Int))).toNat := by
    have x1 : (-(i : Int) - min (-(i : Int)) (-(j : Int))).toNat + min i j = j := by omega
    have x2 : (-(j : Int) - min (-(i : Int)) (-(j : Int))).toNat + min i j = i := by omega
    generalize (-(i : Int) - min (-(i : Int)) (-(j : Int))).toNat = u at x1 ⊢
    generalize (-(j : Int) - min (-(i : Int)) (-(j : Int))).toNat = v at x2 ⊢
    refine (Nat.mul_lt_mul_right (Nat.two_pow_pos (min i j))).mp ?_
    rw [Nat.mul_assoc, Nat.mul_assoc, ← Nat.pow_add, ← Nat.pow_add, x1, x2]; exact h
  have e : FP.Core.order (.fin false c (-(i : Int))) (.fin false d (-(j : Int))) = some (compare ((c * 2 ^ (-(i : Int) - min (-(i : Int)) (-(j : Int))).toNat : Nat) : Int) ((d * 2 ^ (-(j : Int) - min (-(i : Int)) (-(j : Int))).toNat : Nat) : Int)) := rfl
  rw [e, own_cmplt (Int.ofNat_lt.mpr key)]
/-! ### what the method reckons -/
def own_F (B : Nat → Int32) : Nat → Int32
  | 0 => 0
  | i + 1 => if B i = 0 then own_F B i else own_F B i + 1
def own_S (B : Nat → Int32) : Nat → UInt64
  | 0 => FP.dconst0
  | i + 1 => if B i = 0 then own_S B i else FP.dadd (own_S B i) (FP.ddiv (FP.i2d (own_F B i + 1)) (FP.i2d (Int32.ofNat (i + 1))))
def own_N (B : Nat → Int32) : Nat → Int64
  | 0 => 0
  | i + 1 => if B i = 0 then own_N B i else own_N B i + (60 * (own_F B i + 1) / Int32.ofNat (i + 1)).toInt64
theorem own_F0 {B : Nat → Int32} {k : Nat} (h : B k = 0) : own_F B (k + 1) = own_F B k := by
  show (if B k = 0 then own_F B k else own_F B k + 1) = _
  exact if_pos h
theorem own_F1 {B : Nat → Int32} {k : Nat} (h : ¬ B k = 0) : own_F B (k + 1) = own_F B k + 1 := by
  show (if B k = 0 then own_F B k else own_F B k + 1) = _
  exact if_neg h
theorem own_S0 {B : Nat → Int32} {k : Nat} (h : B k = 0) : own_S B (k + 1) = own_S B k := by
  show (if B k = 0 then own_S B k else FP.dadd (own_S B k) (FP.ddiv (FP.i2d (own_F B k + 1)) (FP.i2d (Int32.ofNat (k + 1))))) = _
  exact if_pos h
theorem own_S1 {B : Nat → Int32} {k : Nat} (h : ¬ B k = 0) : own_S B (k + 1) = FP.dadd (own_S B k) (FP.ddiv (FP.i2d (own_F B k + 1)) (FP.i2d (Int32.ofNat (k + 1)))) := by
  show (if B k = 0 then own_S B k else FP.dadd (own_S B k) (FP.ddiv (FP.i2d (own_F B k + 1)) (FP.i2d (Int32.ofNat (k + 1))))) = _
  exact if_neg h
theorem own_N0 {B : Nat → Int32} {k : Nat} (h : B k = 0) : own_N B (k + 1) = own_N B k := by
  show (if B k = 0 then own_N B k else own_N B k + (60 * (own_F B k + 1) / Int32.ofNat (k + 1)).toInt64) = _
  exact if_pos h
theorem own_N1 {B : Nat → Int32} {k : Nat} {K : Int32} (h : ¬ B k = 0) (hK : Int32.ofNat (k + 1) = K) : own_N B (k + 1) = own_N B k + (60 * (own_F B k + 1) / K).toInt64 := by
  subst hK
  show (if B k = 0 then own_N B k else own_N B k + (60 * (own_F B k + 1) / Int32.ofNat (k + 1)).toInt64) = _
  exact if_neg h
theorem own_n1 {x : Int32} (h : x = 1) : ¬ x = 0 := by
  subst h; decide
theorem own_tail {B : Nat → Int32} {m i : Nat} (hB : ∀ j, m ≤ j → B j = 0) (hi : i = m) (hm : m ≤ 6) : own_S B 6 = own_S B i := by
  subst hi
  have key : ∀ d, own_S B (i + d) = own_S B i := by
    intro d
    induction d with
    | zero => rfl
    | succ d ih => exact (own_S0 (hB (i + d) (by omega))).trans ih
  have := key (6 - i)
  rwa [show i + (6 - i) = 6 by omega] at this
def own_Bb (b0 b1 b2 b3 b4 b5 : Bool) : Nat → Int32
  | 0 => if b0 then 1 else 0
  | 1 => if b1 then 1 else 0
  | 2 => if b2 then 1 else 0
  | 3 => if b3 then 1 else 0
  | 4 => if b4 then 1 else 0
  | 5 => if b5 then 1 else 0
  | _ => 0
section OwnBits
variable {b0 b1 b2 b3 b4 b5 : Bool}
theorem own_z0 (h : b0 = false) : own_Bb b0 b1 b2 b3 b4 b5 0 = 0 := by
  subst h; rfl
theorem own_o0 (h : b0 = true) : own_Bb b0 b1 b2 b3 b4 b5 0 = 1 := by
  subst h; rfl
theorem own_z1 (h : b1 = false) : own_Bb b0 b1 b2 b3 b4 b5 1 = 0 := by
  subst h; rfl
theorem own_o1 (h : b1 = true) : own_Bb b0 b1 b2 b3 b4 b5 1 = 1 := by
  subst h; rfl
theorem own_z2 (h : b2 = false) : own_Bb b0 b1 b2 b3 b4 b5 2 = 0 := by
  subst h; rfl
theorem own_o2 (h : b2 = true) : own_Bb b0 b1 b2 b3 b4 b5 2 = 1 := by
  subst h; rfl
theorem own_z3 (h : b3 = false) : own_Bb b0 b1 b2 b3 b4 b5 3 = 0 := by
  subst h; rfl
theorem own_o3 (h : b3 = true) : own_Bb b0 b1 b2 b3 b4 b5 3 = 1 := by
  subst h; rfl
theorem own_z4 (h : b4 = false) : own_Bb b0 b1 b2 b3 b4 b5 4 = 0 := by
  subst h; rfl
theorem own_o4 (h : b4 = true) : own_Bb b0 b1 b2 b3 b4 b5 4 = 1 := by
  subst h; rfl
theorem own_z5 (h : b5 = false) : own_Bb b0 b1 b2 b3 b4 b5 5 = 0 := by
  subst h; rfl
theorem own_o5 (h : b5 = true) : own_Bb b0 b1 b2 b3 b4 b5 5 = 1 := by
  subst h; rfl
end OwnBits
def own_ok2 : FP.Core.Datum → FP.Core.Datum → FP.Core.Datum → Bool
  | .fin false cS qS, .fin false cL qL, .fin false cH qH =>
    decide (4503599627370496 ≤ cS) && decide (cS < 9007199254740992) && decide (qS ≤ -50) && decide (-60 ≤ qS) && decide (qL ≤ 0) && decide (qH ≤ 0) &&
      decide (cL * (2 ^ 37 * 2 ^ (-qS).toNat) * (9007199254740992 * 9007199254740992 * 9007199254740992) < 8444249301319680 * cS * (9007199254740991 * 9007199254740991 * 9007199254740991) * 2 ^ (-qL).toNat) &&
      decide (8444249301319680 * cS * (9007199254740993 * 9007199254740993 * 9007199254740993) * 2 ^ (-qH).toNat < cH * (2 ^ 37 * 2 ^ (-qS).toNat) * (9007199254740992 * 9007199254740992 * 9007199254740992))
  | _, _, _ => false
theorem own_ok2_spec {x y z : FP.Core.Datum} (h : own_ok2 x y z = true) : ∃ cS kS cL kL cH kH : Nat, x = .fin false cS (-(kS : Int)) ∧ y = .fin false cL (-(kL : Int)) ∧ z = .fin false cH (-(kH : Int)) ∧ 4503599627370496 ≤ cS ∧ cS < 9007199254740992 ∧ 50 ≤ kS ∧ kS ≤ 60 ∧
    cL * (2 ^ 37 * 2 ^ kS) * (9007199254740992 * 9007199254740992 * 9007199254740992) < 8444249301319680 * cS * (9007199254740991 * 9007199254740991 * 9007199254740991) * 2 ^ kL ∧
    8444249301319680 * cS * (9007199254740993 * 9007199254740993 * 9007199254740993) * 2 ^ kH < cH * (2 ^ 37 * 2 ^ kS) * (9007199254740992 * 9007199254740992 * 9007199254740992) := by
  unfold own_ok2 at h
  split at h
  · rename_i cS qS cL qL cH qH
    rw [Bool.and_eq_true, Bool.and_eq_true, Bool.and_eq_true, Bool.and_eq_true, Bool.and_eq_true, Bool.and_eq_true, Bool.and_eq_true] at h
    obtain ⟨⟨⟨⟨⟨⟨⟨c1, c2⟩, c3⟩, c4⟩, c5⟩, c6⟩, c7⟩, c8⟩ := h
    have c1 := of_decide_eq_true c1
    have c2 := of_decide_eq_true c2
    have c3 := of_decide_eq_true c3
    have c4 := of_decide_eq_true c4
    have c5 := of_decide_eq_true c5
    have c6 := of_decide_eq_true c6
    exact ⟨cS, (-qS).toNat, cL, (-qL).toNat, cH, (-qH).toNat, congrArg (FP.Core.Datum.fin false cS) (by omega), congrArg (FP.Core.Datum.fin false cL) (by omega), congrArg (FP.Core.Datum.fin false cH) (by omega), c1, c2, by omega, by omega, of_decide_eq_true c7, of_decide_eq_true c8⟩
  · cases h
def own_ok (S : UInt64) (n : Int64) : Bool := (decide (S = 0) && decide (n = 0)) || own_ok2 (FP.Core.val64 S) (FP.Core.val64 (FP.l2d (n * 1024 - 1))) (FP.Core.val64 (FP.l2d (n * 1024 + 1)))
def own_chk (b0 b1 b2 b3 b4 b5 : Bool) : Bool := own_ok (own_S (own_Bb b0 b1 b2 b3 b4 b5) 6) (own_N (own_Bb b0 b1 b2 b3 b4 b5) 6) &&
  (List.range 6).all (fun i => decide (FP.ddiv (FP.i2d (own_F (own_Bb b0 b1 b2 b3 b4 b5) i + 1)) (FP.i2d (Int32.ofNat (i + 1))) &&& 0x7fffffffffffffff ≤ 0x7ff0000000000000) && decide (FP.dadd (own_S (own_Bb b0 b1 b2 b3 b4 b5) i) (FP.ddiv (FP.i2d (own_F (own_Bb b0 b1 b2 b3 b4 b5) i + 1)) (FP.i2d (Int32.ofNat (i + 1)))) &&& 0x7fffffffffffffff ≤ 0x7ff0000000000000))
set_option maxRecDepth 65536 in
theorem own_tab : ∀ b0 b1 b2 b3 b4 b5 : Bool, own_chk b0 b1 b2 b3 b4 b5 = true := by decide +kernel
theorem own_q (b0 b1 b2 b3 b4 b5 : Bool) (i : Nat) (hi : i < 6) : (FP.ddiv (FP.i2d (own_F (own_Bb b0 b1 b2 b3 b4 b5) i + 1)) (FP.i2d (Int32.ofNat (i + 1))) &&& 0x7fffffffffffffff ≤ 0x7ff0000000000000) ∧ (FP.dadd (own_S (own_Bb b0 b1 b2 b3 b4 b5) i) (FP.ddiv (FP.i2d (own_F (own_Bb b0 b1 b2 b3 b4 b5) i + 1)) (FP.i2d (Int32.ofNat (i + 1)))) &&& 0x7fffffffffffffff ≤ 0x7ff0000000000000) := by
  have T := own_tab b0 b1 b2 b3 b4 b5
  unfold own_chk at T
  rw [Bool.and_eq_true] at T
  have q := List.all_eq_true.mp T.2 i (List.mem_range.mpr hi)
  rw [Bool.and_eq_true] at q
  exact ⟨of_decide_eq_true q.1, of_decide_eq_true q.2⟩
theorem own_nn {x : UInt64} {s : Bool} {c : Nat} {q : Int} (h : FP.Core.val64 x = .fin s c q) : x &&& 0x7fffffffffffffff ≤ 0x7ff0000000000000 :=
  Jvm.Free.Fl.val64_no.mpr (fun e => by rw [h] at e; cases e)
theorem own_vM : FP.Core.val64 (4678677062884524032 : UInt64) = .fin false 8444249301319680 (-37) := by decide +kernel
theorem own_v0 : FP.Core.val64 (0 : UInt64) = .fin false 0 FP.Core.b64.qmin := by decide +kernel
theorem own_fin0 {S R : UInt64} {n : Int64} {cR kR : Nat} (hR : FP.Core.val64 R = .fin false cR (-(kR : Int))) (r1 : 4503599627370496 ≤ cR) (r2 : cR < 9007199254740992) (r3 : kR ≤ 52) (T : own_ok S n = true) :
    (FP.ddiv S R &&& 0x7fffffffffffffff ≤ 0x7ff0000000000000) ∧ (FP.dmul (FP.ddiv S R) (4678677062884524032 : UInt64) &&& 0x7fffffffffffffff ≤ 0x7ff0000000000000) ∧ (FP.dmul (FP.dmul (FP.ddiv S R) (4678677062884524032 : UInt64)) R &&& 0x7fffffffffffffff ≤ 0x7ff0000000000000) ∧
      FP.dcmp (FP.l2d (n * (1024 : Int64) - (1 : Int64))) (FP.dmul (FP.dmul (FP.ddiv S R) (4678677062884524032 : UInt64)) R) = some .lt ∧ FP.dcmp (FP.dmul (FP.dmul (FP.ddiv S R) (4678677062884524032 : UInt64)) R) (FP.l2d (n * (1024 : Int64) + (1 : Int64))) = some .lt := by
  unfold own_ok at T
  rw [Bool.or_eq_true] at T
  rcases T with T | T
  · rw [Bool.and_eq_true] at T
    have t1 := of_decide_eq_true T.1
    have t2 := of_decide_eq_true T.2
    subst t1 t2
    have z1 : FP.Core.val64 (FP.ddiv 0 R) = .fin false 0 FP.Core.b64.qmin := by
      refine (FP.Core.val64_ddiv 0 R).trans ?_
      rw [own_v0, hR]
      show (if cR = 0 then _ else FP.Core.roundRatio FP.Core.b64 (false != false) 0 cR _) = _
      rw [if_neg (by omega)]; exact if_pos rfl
    have z2 : FP.Core.val64 (FP.dmul (FP.ddiv 0 R) (4678677062884524032 : UInt64)) = .fin false 0 FP.Core.b64.qmin := by
      refine (FP.Core.val64_dmul _ _).trans ?_
      rw [show FP.Core.val64 (FP.ddiv 0 R) = _ from z1, own_vM]
      show FP.Core.roundRatio FP.Core.b64 (false != false) (0 * 8444249301319680) 1 _ = _
      exact if_pos rfl
    have z3 : FP.Core.val64 (FP.dmul (FP.dmul (FP.ddiv 0 R) (4678677062884524032 : UInt64)) R) = .fin false 0 FP.Core.b64.qmin := by
      refine (FP.Core.val64_dmul _ _).trans ?_
      rw [show FP.Core.val64 (FP.dmul (FP.ddiv 0 R) (4678677062884524032 : UInt64)) = _ from z2, hR]
      show FP.Core.roundRatio FP.Core.b64 (false != false) (0 * cR) 1 _ = _
      rw [Nat.zero_mul]; exact if_pos rfl
    refine ⟨own_nn z1, own_nn z2, own_nn z3, ?_, ?_⟩
    · show FP.Core.order (FP.Core.val64 (FP.l2d (0 * 1024 - 1))) (FP.Core.val64 (FP.dmul (FP.dmul (FP.ddiv 0 R) (4678677062884524032 : UInt64)) R)) = some .lt
      rw [z3]; decide +kernel
    · show FP.Core.order (FP.Core.val64 (FP.dmul (FP.dmul (FP.ddiv 0 R) (4678677062884524032 : UInt64)) R)) (FP.Core.val64 (FP.l2d (0 * 1024 + 1))) = some .lt
      rw [z3]; decide +kernel
  · obtain ⟨cS, kS, cL, kL, cH, kH, e1, e2, e3, s1, s2, s3, s4, i1, i2⟩ := own_ok2_spec T
    obtain ⟨cA, kA, cB, kB, cT, kT, vA, vB, vT, t1, t2⟩ := own_chain e1 hR own_vM s1 s2 s3 s4 r1 r2 r3 (by decide) (by decide)
    refine ⟨own_nn vA, own_nn vB, own_nn vT, ?_, ?_⟩
    · show FP.Core.order (FP.Core.val64 (FP.l2d (n * 1024 - 1))) (FP.Core.val64 (FP.dmul (FP.dmul (FP.ddiv S R) (4678677062884524032 : UInt64)) R)) = some .lt
      rw [e2, vT]
      exact own_order (own_cut1 (Nat.two_pow_pos _) i1 t2)
    · show FP.Core.order (FP.Core.val64 (FP.dmul (FP.dmul (FP.ddiv S R) (4678677062884524032 : UInt64)) R)) (FP.Core.val64 (FP.l2d (n * 1024 + 1))) = some .lt
      rw [vT, e3]
      exact own_order (own_cut2 (Nat.two_pow_pos _) i2 t1)
theorem own_fin (b0 b1 b2 b3 b4 b5 : Bool) {rc : Int32} (h : 0 < rc.toInt) :
    (FP.ddiv (own_S (own_Bb b0 b1 b2 b3 b4 b5) 6) (FP.i2d rc) &&& 0x7fffffffffffffff ≤ 0x7ff0000000000000) ∧ (FP.dmul (FP.ddiv (own_S (own_Bb b0 b1 b2 b3 b4 b5) 6) (FP.i2d rc)) (4678677062884524032 : UInt64) &&& 0x7fffffffffffffff ≤ 0x7ff0000000000000) ∧ (FP.dmul (FP.dmul (FP.ddiv (own_S (own_Bb b0 b1 b2 b3 b4 b5) 6) (FP.i2d rc)) (4678677062884524032 : UInt64)) (FP.i2d rc) &&& 0x7fffffffffffffff ≤ 0x7ff0000000000000) ∧
      FP.dcmp (FP.l2d (own_N (own_Bb b0 b1 b2 b3 b4 b5) 6 * (1024 : Int64) - (1 : Int64))) (FP.dmul (FP.dmul (FP.ddiv (own_S (own_Bb b0 b1 b2 b3 b4 b5) 6) (FP.i2d rc)) (4678677062884524032 : UInt64)) (FP.i2d rc)) = some .lt ∧ FP.dcmp (FP.dmul (FP.dmul (FP.ddiv (own_S (own_Bb b0 b1 b2 b3 b4 b5) 6) (FP.i2d rc)) (4678677062884524032 : UInt64)) (FP.i2d rc)) (FP.l2d (own_N (own_Bb b0 b1 b2 b3 b4 b5) 6 * (1024 : Int64) + (1 : Int64))) = some .lt := by
  obtain ⟨cR, kR, hR, r1, r2, r3⟩ := own_i2d h
  have T := own_tab b0 b1 b2 b3 b4 b5
  unfold own_chk at T
  rw [Bool.and_eq_true] at T
  exact own_fin0 hR r1 r2 r3 T.1
theorem own_and7 (x : Int32) : ¬ ((x &&& 2147483647) % 7) < 0 ∧ ((x &&& 2147483647) % 7).toNatClampNeg ≤ 6 := by
  have m := c_mask x 2147483647 31 (by decide) (by decide)
  have e : ((2 ^ 31 : Nat) : Int) = 2147483648 := rfl
  rw [e] at m
  have q := (c_irem (x &&& 2147483647) 7 7 rfl).1 (by omega)
  rw [Int32.lt_iff_toInt_lt, show (0 : Int32).toInt = 0 from rfl]
  simp only [Int32.toNatClampNeg]; omega
theorem own_rc (x : Int32) : 0 < ((x &&& 1073741823) + 1).toInt := by
  have m := c_mask x 1073741823 30 (by decide) (by decide)
  have e : ((2 ^ 30 : Nat) : Int) = 1073741824 := rfl
  rw [e] at m
  have a := c_iadd (x &&& 1073741823) 1
  have r := rng32 ((x &&& 1073741823) + 1)
  have e1 : (1 : Int32).toInt = 1 := rfl
  omega
def own_G (B : Nat → Int32) (k : Nat) : Nat → Value := fun j => if j < k then .int (B j) else .int 0
theorem own_G1 {B : Nat → Int32} {k : Nat} (h : B k = 1) (j : Nat) : upd (own_G B k) k (.int 1) j = own_G B (k + 1) j := by
  unfold upd own_G
  by_cases e : j = k
  · subst e; simp [h]
  · by_cases q : j < k
    · simp [e, q, show j < k + 1 by omega]
    · simp [e, q, show ¬ j < k + 1 by omega]
theorem own_G0 {B : Nat → Int32} {k : Nat} (h : B k = 0) (j : Nat) : own_G B k j = own_G B (k + 1) j := by
  unfold own_G
  by_cases e : j = k
  · subst e; simp [h]
  · by_cases q : j < k
    · simp [q, show j < k + 1 by omega]
    · simp [q, show ¬ j < k + 1 by omega]
theorem own_gt {z K : Int32} {k : Nat} (hK : K.toInt = k) (h : K < z) : k < z.toNatClampNeg := by
  rw [Int32.lt_iff_toInt_lt] at h; simp only [Int32.toNatClampNeg]; omega
theorem own_out {i : Nat} {z : Int32} (h : z.toNatClampNeg ≤ i) (hz : ¬ z < 0) (hi : i < 100) : z < Int32.ofNat (i + 1) := by
  rw [Int32.lt_iff_toInt_lt, n32_toInt (by omega)]; rw [Int32.lt_iff_toInt_lt, show (0 : Int32).toInt = 0 from rfl] at hz; simp only [Int32.toNatClampNeg] at h; omega
theorem own_in {i : Nat} {z : Int32} (h : i < z.toNatClampNeg) (hz : ¬ z < 0) (hi : i < 100) : ¬ z < Int32.ofNat (i + 1) := by
  rw [Int32.lt_iff_toInt_lt, n32_toInt (by omega)]; simp only [Int32.toNatClampNeg] at h; omega
theorem own_lt {i : Nat} {z : Int32} (h : i < z.toNatClampNeg) : Int32.ofNat i < z := by
  have r := rng32 z
  rw [Int32.lt_iff_toInt_lt, n32_toInt (by simp only [Int32.toNatClampNeg] at h; omega)]; simp only [Int32.toNatClampNeg] at h; omega
theorem own_pre {i : Nat} : Int32.ofNat (i + 1) - (1 : Int32) = Int32.ofNat i := by
  rw [← n32_succ, ← Int32.toInt_inj]
  have a := c_iadd (Int32.ofNat i) 1
  have b := c_isub (Int32.ofNat i + 1) 1
  have r := rng32 (Int32.ofNat i)
  have r1 := rng32 (Int32.ofNat i + 1)
  have r2 := rng32 (Int32.ofNat i + 1 - 1)
  have e : (1 : Int32).toInt = 1 := rfl
  omega
theorem own_B0 {p z : Int32} {b0 b1 b2 b3 b4 b5 : Bool} (hb0 : b0 = decide ((0 : Int32) < z ∧ ¬ (p &&& (1 : Int32)) = 0)) (hb1 : b1 = decide ((1 : Int32) < z ∧ ¬ (p &&& (2 : Int32)) = 0)) (hb2 : b2 = decide ((2 : Int32) < z ∧ ¬ (p &&& (4 : Int32)) = 0)) (hb3 : b3 = decide ((3 : Int32) < z ∧ ¬ (p &&& (8 : Int32)) = 0)) (hb4 : b4 = decide ((4 : Int32) < z ∧ ¬ (p &&& (16 : Int32)) = 0)) (hb5 : b5 = decide ((5 : Int32) < z ∧ ¬ (p &&& (32 : Int32)) = 0)) : ∀ j, z.toNatClampNeg ≤ j → own_Bb b0 b1 b2 b3 b4 b5 j = 0 := by
  intro j hj
  match j, hj with
  | 0, hj => exact own_z0 (hb0.trans (decide_eq_false fun h => absurd (own_gt (K := 0) (k := 0) rfl h.1) (by omega)))
  | 1, hj => exact own_z1 (hb1.trans (decide_eq_false fun h => absurd (own_gt (K := 1) (k := 1) rfl h.1) (by omega)))
  | 2, hj => exact own_z2 (hb2.trans (decide_eq_false fun h => absurd (own_gt (K := 2) (k := 2) rfl h.1) (by omega)))
  | 3, hj => exact own_z3 (hb3.trans (decide_eq_false fun h => absurd (own_gt (K := 3) (k := 3) rfl h.1) (by omega)))
  | 4, hj => exact own_z4 (hb4.trans (decide_eq_false fun h => absurd (own_gt (K := 4) (k := 4) rfl h.1) (by omega)))
  | 5, hj => exact own_z5 (hb5.trans (decide_eq_false fun h => absurd (own_gt (K := 5) (k := 5) rfl h.1) (by omega)))
  | (j + 6), hj => rfl
def R_m1 : Room := ({ frames := 1, cells := 1, slots := 6, locals := 15 } : Room)
set_option maxRecDepth 65536 in
set_option maxHeartbeats 40000000 in
theorem m1 {l : Launch} {Z : State} {a0 : Array Value} (hw : ∀ d ∈ tables_1, d.before a0 Z = true) {h0 : Heap} {n0 : Nat} (a t : Addr) (p z : Int32) (f : Nat → Value) (F1 : Fld Z h0 a "com/example/rhine/rhine/retrieval/JudgedRanking" "relevantAtRank" "[Z" .null) (F2 : Fld Z h0 a "com/example/rhine/rhine/retrieval/JudgedRanking" "relevantCount" "I" (.int 0)) (E : Exa Z h0 a "com/example/rhine/rhine/retrieval/JudgedRanking") (A : Arf Z h0 t "[Z" .boolean z f) (hz : z.toNatClampNeg ≤ 6) (ga : n0 ≤ a) :
    Met l Z (⟨"com/example/rhine/rhine/retrieval/JudgedRanking", "<init>", "([ZI)V"⟩ : MethodName) prog_37_method_1_code 3 none R_m1 n0 h0 #[(.ref a), (.ref t), (.int p)] (fun v h => v = none ∧ Keep h0 h [a] ∧ Exa Z h a "com/example/rhine/rhine/retrieval/JudgedRanking" ∧ ∃ b : Addr, h0.size ≤ b ∧ n0 ≤ b ∧ Fld Z h a "com/example/rhine/rhine/retrieval/JudgedRanking" "relevantAtRank" "[Z" (.ref b) ∧ Arf Z h b "[Z" .boolean z f ∧ Fld Z h a "com/example/rhine/rhine/retrieval/JudgedRanking" "relevantCount" "I" (.int p)) := by
  refine Met.intro (plainFor_of_name (by first | (simp [plainName, overriddenIn, x]; done) | decide +kernel)) (fun mM => (show entryFrame mM #[(.ref a), (.ref t), (.int p)] 3 = mkF mM 0 #[.val (.ref a), .val (.ref t), .val (.int p)] [] from by first | rfl | (simp [entryFrame, mkF, argsToLocals, Value.category]; done))) (fun w Y C => ?_)
  have K := Keep.refl h0 [a]
  refine g_aloadN C d1_0 (pc' := 1) rfl rfl rfl ?_
  refine g_initO C (W := 0) (hw _ (List.mem_of_getElem? (i := 9) rfl)) (hw _ (List.mem_of_getElem? (i := 10) rfl)) (hw _ (List.mem_of_getElem? (i := 11) rfl)) d1_1 (pc' := 4) rfl rfl (by decide) (Nat.le_of_eq rfl) (by decide) ?_
  refine g_aloadN C d1_4 (pc' := 5) rfl rfl rfl ?_
  refine g_aloadN C d1_5 (pc' := 6) rfl rfl rfl ?_
  refine g_clone (ad := "[Z") (cap := 6) C (W := 1) (hw _ (List.mem_of_getElem? (i := 12) rfl)) (hw _ (List.mem_of_getElem? (i := 13) rfl)) (hw _ (List.mem_of_getElem? (i := 17) rfl)) (hw _ (List.mem_of_getElem? (i := 15) rfl)) (hw _ (List.mem_of_getElem? (i := 16) rfl)) (hw _ (List.mem_of_getElem? (i := 18) rfl)) A d1_6 (pc' := 9) rfl rfl (by decide) (Nat.le_of_eq rfl) (by decide) hz (k' := 1) (n' := 6) rfl rfl (by decide) (by decide) ?_
  intro h41 b41 E41 fb41 gb41 A41
  have ne_a_b41 : a ≠ b41 := Nat.ne_of_lt (Nat.lt_of_lt_of_le F1.lt fb41)
  have ne_t_b41 : t ≠ b41 := Nat.ne_of_lt (Nat.lt_of_lt_of_le A.lt fb41)
  have sz_b41 : h0.size ≤ b41 := Nat.le_trans K.1 fb41
  have F1 := F1.ext E41
  have F2 := F2.ext E41
  have E := E.ext E41
  have A := A.ext E41
  have K := K.ext E41
  refine g_cast C (hw _ (List.mem_of_getElem? (i := 19) rfl)) (Ins.self A41.exa) d1_9 (pc' := 12) rfl ?_
  refine g_putF (host := "") C (Or.inl (hw _ (List.mem_of_getElem? (i := 21) rfl))) Via.refl F1 E (Or.inr ⟨(hw _ (List.mem_of_getElem? (i := 22) rfl)), rfl, rfl⟩) (hw _ (List.mem_of_getElem? (i := 4) rfl)) (ty := (.array .boolean)) (by decide) rfl rfl d1_12 (pc' := 15) rfl ga (fun h42 W43 => ?_)
  have F1 := F1.same W43
  have F2 := F2.other W43 (Or.inr (slot_ne (Or.inr (hw _ (List.mem_of_getElem? (i := 24) rfl)) : Laid Z a0 "com/example/rhine/rhine/retrieval/JudgedRanking" "com/example/rhine/rhine/retrieval/JudgedRanking" "relevantCount" "I") (Or.inr (hw _ (List.mem_of_getElem? (i := 22) rfl)) : Laid Z a0 "com/example/rhine/rhine/retrieval/JudgedRanking" "com/example/rhine/rhine/retrieval/JudgedRanking" "relevantAtRank" "[Z") (by decide) (t := .int) (t' := (.array .boolean)) (by decide) (by decide)))
  have E := E.wr W43
  have K := K.wr W43 (Or.inl (by simp))
  have A41 := A41.other W43 (Ne.symm ne_a_b41)
  refine g_aloadN C d1_15 (pc' := 16) rfl rfl rfl ?_
  refine g_iloadN C d1_16 (pc' := 17) rfl rfl ?_
  refine g_putF (host := "") C (Or.inl (hw _ (List.mem_of_getElem? (i := 23) rfl))) Via.refl F2 E (Or.inr ⟨(hw _ (List.mem_of_getElem? (i := 24) rfl)), rfl, rfl⟩) (hw _ (List.mem_of_getElem? (i := 4) rfl)) (ty := .int) (by decide) rfl rfl d1_17 (pc' := 20) rfl ga (fun h44 W45 => ?_)
  have F2 := F2.same W45
  have F1 := F1.other W45 (Or.inr (slot_ne (Or.inr (hw _ (List.mem_of_getElem? (i := 22) rfl)) : Laid Z a0 "com/example/rhine/rhine/retrieval/JudgedRanking" "com/example/rhine/rhine/retrieval/JudgedRanking" "relevantAtRank" "[Z") (Or.inr (hw _ (List.mem_of_getElem? (i := 24) rfl)) : Laid Z a0 "com/example/rhine/rhine/retrieval/JudgedRanking" "com/example/rhine/rhine/retrieval/JudgedRanking" "relevantCount" "I") (by decide) (t := (.array .boolean)) (t' := .int) (by decide) (by decide)))
  have E := E.wr W45
  have K := K.wr W45 (Or.inl (by simp))
  have A41 := A41.other W45 (Ne.symm ne_a_b41)
  exact g_ret C rfl d1_20 ⟨rfl, K, E, b41, sz_b41, gb41, F1, A41, F2⟩ (by decide) (by decide)
def R_ma : Room := ({ frames := 0, cells := 0, slots := 0, locals := 0 } : Room)
set_option maxRecDepth 65536 in
set_option maxHeartbeats 40000000 in
theorem loopA {l : Launch} {Z : State} {a0 : Array Value} (hw : ∀ d ∈ tables_1, d.before a0 Z = true) {w : Wk} {n0 : Nat} {h0 : Heap} {Y : State → Outcome → Prop} (a t : Addr) (z p : Int32) (f : Nat → Value) (B : Nat → Int32) (C : Cx w Z "com/example/rhine/rhine/retrieval/JudgedRanking" prog_37_method_7_code 5 (some .double) "averagePrecision" R_ma n0 (fun r h => r = some (.double (FP.ddiv (own_S B 6) (FP.i2d p))) ∧ h0 = h) Y) (F : Fld Z h0 a "com/example/rhine/rhine/retrieval/JudgedRanking" "relevantAtRank" "[Z" (.ref t)) (F2 : Fld Z h0 a "com/example/rhine/rhine/retrieval/JudgedRanking" "relevantCount" "I" (.int p)) (A : Arf Z h0 t "[Z" .boolean z f) (hf : ∀ j, j < 6 → f j = .int (B j)) (hz : z.toNatClampNeg ≤ 6) (hB : ∀ j, z.toNatClampNeg ≤ j → B j = 0) (hqq : ∀ i, i < 6 → FP.ddiv (FP.i2d (own_F B i + 1)) (FP.i2d (Int32.ofNat (i + 1))) &&& 0x7fffffffffffffff ≤ 0x7ff0000000000000) (hss : ∀ i, i < 6 → FP.dadd (own_S B i) (FP.ddiv (FP.i2d (own_F B i + 1)) (FP.i2d (Int32.ofNat (i + 1)))) &&& 0x7fffffffffffffff ≤ 0x7ff0000000000000) (haa : FP.ddiv (own_S B 6) (FP.i2d p) &&& 0x7fffffffffffffff ≤ 0x7ff0000000000000) :
    ∀ (n i : Nat) (S : UInt64) (fo : Int32), i + n = z.toNatClampNeg → own_S B i = S → own_F B i = fo → Go w l R_ma n0 Y h0 0 0 7 #[.val (.ref a), .val (.double S), .second, .val (.int fo), .val (.int (Int32.ofNat (i + 1)))] [] := by
  intro n
  induction n with
  | zero =>
    intro i S fo hi hS hF
    have hE : own_S B 6 = S := (own_tail hB (by omega) hz).trans hS
    refine g_iload C d3_7 (pc' := 9) rfl rfl ?_
    refine g_aloadN C d3_9 (pc' := 10) rfl rfl rfl ?_
    refine g_getF (host := "") C (Or.inl (hw _ (List.mem_of_getElem? (i := 21) rfl))) Via.refl F d3_10 (pc' := 13) rfl ?_
    refine g_len C A d3_13 (pc' := 14) rfl ?_
    refine g_icmp_gt C d3_14 (by decide) (pc' := 47) (by decide) (pcN := 17) rfl (fun _ => ?_) (fun q => absurd (own_out (by omega) A.nn (by omega)) q)
    refine g_dloadN C d3_47 (pc' := 48) rfl rfl ?_
    refine g_aloadN C d3_48 (pc' := 49) rfl rfl rfl ?_
    refine g_getF (host := "") C (Or.inl (hw _ (List.mem_of_getElem? (i := 23) rfl))) Via.refl F2 d3_49 (pc' := 52) rfl ?_
    refine g_i2d C d3_52 (pc' := 53) rfl ?_
    refine g_ddiv C (by rw [← hE]; exact haa) d3_53 (pc' := 54) rfl ?_
    exact g_retD C rfl d3_54 ⟨by rw [hE], rfl⟩ (by decide) (by decide)
  | succ n ih =>
    intro i S fo hi hS hF
    refine g_iload C d3_7 (pc' := 9) rfl rfl ?_
    refine g_aloadN C d3_9 (pc' := 10) rfl rfl rfl ?_
    refine g_getF (host := "") C (Or.inl (hw _ (List.mem_of_getElem? (i := 21) rfl))) Via.refl F d3_10 (pc' := 13) rfl ?_
    refine g_len C A d3_13 (pc' := 14) rfl ?_
    refine g_icmp_gt C d3_14 (by decide) (pc' := 47) (by decide) (pcN := 17) rfl (fun q => absurd q (own_in (by omega) A.nn (by omega))) (fun _ => ?_)
    refine g_aloadN C d3_17 (pc' := 18) rfl rfl rfl ?_
    refine g_getF (host := "") C (Or.inl (hw _ (List.mem_of_getElem? (i := 21) rfl))) Via.refl F d3_18 (pc' := 21) rfl ?_
    refine g_iload C d3_21 (pc' := 23) rfl rfl ?_
    refine g_iconst C (z := (1 : Int32)) d3_23 (pc' := 24) rfl rfl ?_
    refine g_isub C d3_24 (pc' := 25) rfl ?_
    refine g_zaload C (v := (.int (B i))) A (by rw [own_pre]; exact n32_nn (by omega)) (by rw [own_pre]; exact own_lt (by omega)) (by rw [own_pre, n32_nat (by omega)]; exact hf i (by omega)) d3_25 (pc' := 26) rfl ?_
    refine g_if_eq C d3_26 (by decide) (pc' := 41) (by decide) (pcN := 29) rfl (fun q26 => ?_) (fun q26 => ?_)
    · refine g_iinc C d3_41 (pc' := 44) rfl rfl (z := ((Int32.ofNat (i + 1)) + (1 : Int32))) rfl (Ls' := #[.val (.ref a), .val (.double S), .second, .val (.int fo), .val (.int ((Int32.ofNat (i + 1)) + (1 : Int32)))]) rfl ?_
      refine g_goto C d3_44 (by decide) (pc' := 7) (by decide) ?_
      exact by rw [n32_succ]; exact ih (i + 1) S fo (by omega) ((own_S0 q26).trans hS) ((own_F0 q26).trans hF)
    · refine g_iinc C d3_29 (pc' := 32) rfl rfl (z := (fo + (1 : Int32))) rfl (Ls' := #[.val (.ref a), .val (.double S), .second, .val (.int (fo + (1 : Int32))), .val (.int (Int32.ofNat (i + 1)))]) rfl ?_
      refine g_dloadN C d3_32 (pc' := 33) rfl rfl ?_
      refine g_iloadN C d3_33 (pc' := 34) rfl rfl ?_
      refine g_i2d C d3_34 (pc' := 35) rfl ?_
      refine g_iload C d3_35 (pc' := 37) rfl rfl ?_
      refine g_i2d C d3_37 (pc' := 38) rfl ?_
      refine g_ddiv C (by rw [← hF]; exact hqq i (by omega)) d3_38 (pc' := 39) rfl ?_
      refine g_dadd C (by rw [← hS, ← hF]; exact hss i (by omega)) d3_39 (pc' := 40) rfl ?_
      refine g_dstoreN C d3_40 (pc' := 41) rfl (Ls' := #[.val (.ref a), .val (.double (FP.dadd S (FP.ddiv (FP.i2d (fo + (1 : Int32))) (FP.i2d (Int32.ofNat (i + 1)))))), .second, .val (.int (fo + (1 : Int32))), .val (.int (Int32.ofNat (i + 1)))]) rfl ?_
      refine g_iinc C d3_41 (pc' := 44) rfl rfl (z := ((Int32.ofNat (i + 1)) + (1 : Int32))) rfl (Ls' := #[.val (.ref a), .val (.double (FP.dadd S (FP.ddiv (FP.i2d (fo + (1 : Int32))) (FP.i2d (Int32.ofNat (i + 1)))))), .second, .val (.int (fo + (1 : Int32))), .val (.int ((Int32.ofNat (i + 1)) + (1 : Int32)))]) rfl ?_
      refine g_goto C d3_44 (by decide) (pc' := 7) (by decide) ?_
      exact by rw [n32_succ]; exact ih (i + 1) (FP.dadd S (FP.ddiv (FP.i2d (fo + (1 : Int32))) (FP.i2d (Int32.ofNat (i + 1))))) (fo + (1 : Int32)) (by omega) (by rw [own_S1 q26, hS, hF]) (by rw [own_F1 q26, hF])
set_option maxRecDepth 65536 in
set_option maxHeartbeats 40000000 in
theorem ma {l : Launch} {Z : State} {a0 : Array Value} (hw : ∀ d ∈ tables_1, d.before a0 Z = true) {h0 : Heap} {n0 : Nat} (a t : Addr) (z p : Int32) (f : Nat → Value) (B : Nat → Int32) (F : Fld Z h0 a "com/example/rhine/rhine/retrieval/JudgedRanking" "relevantAtRank" "[Z" (.ref t)) (F2 : Fld Z h0 a "com/example/rhine/rhine/retrieval/JudgedRanking" "relevantCount" "I" (.int p)) (A : Arf Z h0 t "[Z" .boolean z f) (hf : ∀ j, j < 6 → f j = .int (B j)) (hz : z.toNatClampNeg ≤ 6) (hB : ∀ j, z.toNatClampNeg ≤ j → B j = 0) (hqq : ∀ i, i < 6 → FP.ddiv (FP.i2d (own_F B i + 1)) (FP.i2d (Int32.ofNat (i + 1))) &&& 0x7fffffffffffffff ≤ 0x7ff0000000000000) (hss : ∀ i, i < 6 → FP.dadd (own_S B i) (FP.ddiv (FP.i2d (own_F B i + 1)) (FP.i2d (Int32.ofNat (i + 1)))) &&& 0x7fffffffffffffff ≤ 0x7ff0000000000000) (haa : FP.ddiv (own_S B 6) (FP.i2d p) &&& 0x7fffffffffffffff ≤ 0x7ff0000000000000) :
    Met l Z (⟨"com/example/rhine/rhine/retrieval/JudgedRanking", "averagePrecision", "()D"⟩ : MethodName) prog_37_method_7_code 5 (some .double) R_ma n0 h0 #[(.ref a)] (fun r h => r = some (.double (FP.ddiv (own_S B 6) (FP.i2d p))) ∧ h0 = h) := by
  refine Met.intro (plainFor_of_name (by first | (simp [plainName, overriddenIn, x]; done) | decide +kernel)) (fun mM => (show entryFrame mM #[(.ref a)] 5 = mkF mM 0 #[.val (.ref a), .unset, .unset, .unset, .unset] [] from by first | rfl | (simp [entryFrame, mkF, argsToLocals, Value.category]; done))) (fun w Y C => ?_)
  refine g_dconst0 C d3_0 (pc' := 1) rfl ?_
  refine g_dstoreN C d3_1 (pc' := 2) rfl (Ls' := #[.val (.ref a), .val (.double FP.dconst0), .second, .unset, .unset]) rfl ?_
  refine g_iconst C (z := (0 : Int32)) d3_2 (pc' := 3) rfl rfl ?_
  refine g_istoreN C d3_3 (pc' := 4) rfl (Ls' := #[.val (.ref a), .val (.double FP.dconst0), .second, .val (.int (0 : Int32)), .unset]) rfl ?_
  refine g_iconst C (z := (1 : Int32)) d3_4 (pc' := 5) rfl rfl ?_
  refine g_istore C d3_5 (pc' := 7) rfl (Ls' := #[.val (.ref a), .val (.double FP.dconst0), .second, .val (.int (0 : Int32)), .val (.int (1 : Int32))]) rfl ?_
  exact loopA (C := C) hw a t z p f B F F2 A hf hz hB hqq hss haa z.toNatClampNeg 0 FP.dconst0 0 (by omega) rfl rfl
set_option maxRecDepth 65536 in
set_option maxHeartbeats 40000000 in
theorem seg222 {l : Launch} {Z : State} {a0 : Array Value} (hw : ∀ d ∈ tables_1, d.before a0 Z = true) {w : Wk} {n0 : Nat} {h0 : Heap} {Y : State → Outcome → Prop} (p0 p1 p2 z rc fo : Int32) (nn : Int64) (b0 b1 b2 b3 b4 b5 : Bool) (a : Addr) (C : Cx w Z "com/example/rhine/rhine/retrieval/JudgedRankingAveragePrecisionPinLaw" code 18 (some .boolean) "law" room_1 n0 (fun v _ => v = some (.int 1)) Y) (A : Arf Z h0 a "[Z" .boolean z (own_G (own_Bb b0 b1 b2 b3 b4 b5) 6)) (ga : n0 ≤ a) (hz : z.toNatClampNeg ≤ 6) (hrc : 0 < rc.toInt) (hb0 : b0 = decide ((0 : Int32) < z ∧ ¬ (p1 &&& (1 : Int32)) = 0)) (hb1 : b1 = decide ((1 : Int32) < z ∧ ¬ (p1 &&& (2 : Int32)) = 0)) (hb2 : b2 = decide ((2 : Int32) < z ∧ ¬ (p1 &&& (4 : Int32)) = 0)) (hb3 : b3 = decide ((3 : Int32) < z ∧ ¬ (p1 &&& (8 : Int32)) = 0)) (hb4 : b4 = decide ((4 : Int32) < z ∧ ¬ (p1 &&& (16 : Int32)) = 0)) (hb5 : b5 = decide ((5 : Int32) < z ∧ ¬ (p1 &&& (32 : Int32)) = 0)) (hfo : own_F (own_Bb b0 b1 b2 b3 b4 b5) 6 = fo) (hnn : own_N (own_Bb b0 b1 b2 b3 b4 b5) 6 = nn) :
    Go w l room_1 n0 Y h0 1 6 222 #[.val (.int p0), .val (.int p1), .val (.int p2), .val (.int z), .val (.int rc), .val (.ref a), .val (.int fo), .val (.long nn), .second, .unset, .unset, .unset, .unset, .unset, .unset, .unset, .unset, .unset] [] := by
  obtain ⟨N1, N2, N3, D1, D2⟩ := own_fin b0 b1 b2 b3 b4 b5 hrc
  rw [hnn] at D1 D2
  refine g_new C (hw _ (List.mem_of_getElem? (i := 3) rfl)) (hw _ (List.mem_of_getElem? (i := 4) rfl)) (hw _ (List.mem_of_getElem? (i := 5) rfl)) at_222 (pc' := 225) rfl (k' := 2) (n' := 8) rfl rfl (by decide) (by decide) ?_
  intro h46 b46 E46 fb46 gb46 A46 D46
  have ne_a_b46 : a ≠ b46 := Nat.ne_of_lt (Nat.lt_of_lt_of_le A.lt fb46)
  have A := A.ext E46
  have F46_relevantAtRank : Fld Z h46 b46 "com/example/rhine/rhine/retrieval/JudgedRanking" "relevantAtRank" "[Z" .null := D46 (Or.inr (hw _ (List.mem_of_getElem? (i := 22) rfl))) (ty := (.array .boolean)) (by decide)
  have F46_relevantCount : Fld Z h46 b46 "com/example/rhine/rhine/retrieval/JudgedRanking" "relevantCount" "I" (.int (0 : Int32)) := D46 (Or.inr (hw _ (List.mem_of_getElem? (i := 24) rfl))) (ty := .int) (by decide)
  refine g_dup C at_225 (pc' := 226) rfl rfl ?_
  refine g_aload C at_226 (pc' := 228) rfl rfl rfl ?_
  refine g_iload C at_228 (pc' := 230) rfl rfl ?_
  refine g_special (rm := R_m1) (a := b46) C (y := (⟨"com/example/rhine/rhine/retrieval/JudgedRanking", "<init>", "([ZI)V"⟩ : MethodName)) rfl (hw _ (List.mem_of_getElem? (i := 6) rfl)) (hw _ (List.mem_of_getElem? (i := 7) rfl)) (hw _ (List.mem_of_getElem? (i := 8) rfl)) (by decide) at_230 (pc' := 233) rfl (argsL := [(.ref a), (.int rc)]) (rest := [(.ref b46)]) (lenOf pd_0 rfl) rfl (W := 1) (Nat.le_of_eq rfl) rfl (fun hn9 => Met.back (rm := R_m1) (m1 hw b46 a rc z (own_G (own_Bb b0 b1 b2 b3 b4 b5) 6) F46_relevantAtRank F46_relevantCount A46 A hz gb46) hn9 C.hZ (hw _ (List.mem_of_getElem? (i := 8) rfl)) (hw _ (List.mem_of_getElem? (i := 5) rfl)) (by decide) (by decide)) (k' := 3) (n' := 14) rfl rfl (by decide) (by decide) ?_
  rintro _ h47 ⟨rfl, Ki, E_r, tt, ftt, gtt, Fr, At, Fc⟩
  have ne_a_tt : a ≠ tt := Nat.ne_of_lt (Nat.lt_of_lt_of_le A.lt ftt)
  have A := A.keep Ki (ninS ne_a_b46 nin0)
  show Go w l _ n0 _ h47 3 14 233 #[.val (.int p0), .val (.int p1), .val (.int p2), .val (.int z), .val (.int rc), .val (.ref a), .val (.int fo), .val (.long nn), .second, .unset, .unset, .unset, .unset, .unset, .unset, .unset, .unset, .unset] [(.ref b46)]
  refine g_astore C at_233 (pc' := 235) rfl rfl (Ls' := #[.val (.int p0), .val (.int p1), .val (.int p2), .val (.int z), .val (.int rc), .val (.ref a), .val (.int fo), .val (.long nn), .second, .val (.ref b46), .unset, .unset, .unset, .unset, .unset, .unset, .unset, .unset]) rfl ?_
  refine g_aload C at_235 (pc' := 237) rfl rfl rfl ?_
  refine g_virtual (rm := R_ma) (a := b46) C (y := (⟨"com/example/rhine/rhine/retrieval/JudgedRanking", "averagePrecision", "()D"⟩ : MethodName)) (y' := (⟨"com/example/rhine/rhine/retrieval/JudgedRanking", "averagePrecision", "()D"⟩ : MethodName)) (hw _ (List.mem_of_getElem? (i := 25) rfl)) (hw _ (List.mem_of_getElem? (i := 26) rfl)) (g_nf C (hw _ (List.mem_of_getElem? (i := 28) rfl))) (hw _ (List.mem_of_getElem? (i := 28) rfl)) (hw _ (List.mem_of_getElem? (i := 27) rfl)) (by decide) E_r at_237 (pc' := 240) rfl (argsL := []) (rest := []) (lenOf pd_1 rfl) rfl (W := 0) (Nat.le_of_eq rfl) rfl (fun hn9 => Met.back (rm := R_ma) (ma hw b46 tt z rc (own_G (own_Bb b0 b1 b2 b3 b4 b5) 6) (own_Bb b0 b1 b2 b3 b4 b5) Fr Fc At (fun j hj => by unfold own_G; rw [if_pos hj]) hz (own_B0 hb0 hb1 hb2 hb3 hb4 hb5) (fun i hi => (own_q b0 b1 b2 b3 b4 b5 i hi).1) (fun i hi => (own_q b0 b1 b2 b3 b4 b5 i hi).2) N1) hn9 C.hZ (hw _ (List.mem_of_getElem? (i := 29) rfl)) (hw _ (List.mem_of_getElem? (i := 5) rfl)) (by decide) (by decide)) (k' := 3) (n' := 14) rfl rfl (by decide) (by decide) ?_
  rintro _ _ ⟨rfl, rfl⟩
  show Go w l _ n0 _ h47 3 14 240 #[.val (.int p0), .val (.int p1), .val (.int p2), .val (.int z), .val (.int rc), .val (.ref a), .val (.int fo), .val (.long nn), .second, .val (.ref b46), .unset, .unset, .unset, .unset, .unset, .unset, .unset, .unset] [(.double (FP.ddiv (own_S (own_Bb b0 b1 b2 b3 b4 b5) 6) (FP.i2d rc)))]
  refine g_dstore C at_240 (pc' := 242) rfl (Ls' := #[.val (.int p0), .val (.int p1), .val (.int p2), .val (.int z), .val (.int rc), .val (.ref a), .val (.int fo), .val (.long nn), .second, .val (.ref b46), .val (.double (FP.ddiv (own_S (own_Bb b0 b1 b2 b3 b4 b5) 6) (FP.i2d rc))), .second, .unset, .unset, .unset, .unset, .unset, .unset]) rfl ?_
  refine g_dload C at_242 (pc' := 244) rfl rfl ?_
  refine g_ldc2D C (hw _ (List.mem_of_getElem? (i := 30) rfl)) at_244 (pc' := 247) rfl ?_
  refine g_dmul C N2 at_247 (pc' := 248) rfl ?_
  refine g_iload C at_248 (pc' := 250) rfl rfl ?_
  refine g_i2d C at_250 (pc' := 251) rfl ?_
  refine g_dmul C N3 at_251 (pc' := 252) rfl ?_
  refine g_dstore C at_252 (pc' := 254) rfl (Ls' := #[.val (.int p0), .val (.int p1), .val (.int p2), .val (.int z), .val (.int rc), .val (.ref a), .val (.int fo), .val (.long nn), .second, .val (.ref b46), .val (.double (FP.ddiv (own_S (own_Bb b0 b1 b2 b3 b4 b5) 6) (FP.i2d rc))), .second, .val (.double (FP.dmul (FP.dmul (FP.ddiv (own_S (own_Bb b0 b1 b2 b3 b4 b5) 6) (FP.i2d rc)) (4678677062884524032 : UInt64)) (FP.i2d rc))), .second, .unset, .unset, .unset, .unset]) rfl ?_
  refine g_lload C at_254 (pc' := 256) rfl rfl ?_
  refine g_ldc2J C (hw _ (List.mem_of_getElem? (i := 31) rfl)) at_256 (pc' := 259) rfl ?_
  refine g_lmul C at_259 (pc' := 260) rfl ?_
  refine g_lconst C (z := (1 : Int64)) at_260 (pc' := 261) rfl rfl ?_
  refine g_lsub C at_261 (pc' := 262) rfl ?_
  refine g_l2d C at_262 (pc' := 263) rfl ?_
  refine g_dstore C at_263 (pc' := 265) rfl (Ls' := #[.val (.int p0), .val (.int p1), .val (.int p2), .val (.int z), .val (.int rc), .val (.ref a), .val (.int fo), .val (.long nn), .second, .val (.ref b46), .val (.double (FP.ddiv (own_S (own_Bb b0 b1 b2 b3 b4 b5) 6) (FP.i2d rc))), .second, .val (.double (FP.dmul (FP.dmul (FP.ddiv (own_S (own_Bb b0 b1 b2 b3 b4 b5) 6) (FP.i2d rc)) (4678677062884524032 : UInt64)) (FP.i2d rc))), .second, .val (.double (FP.l2d ((nn * (1024 : Int64)) - (1 : Int64)))), .second, .unset, .unset]) rfl ?_
  refine g_lload C at_265 (pc' := 267) rfl rfl ?_
  refine g_ldc2J C (hw _ (List.mem_of_getElem? (i := 31) rfl)) at_267 (pc' := 270) rfl ?_
  refine g_lmul C at_270 (pc' := 271) rfl ?_
  refine g_lconst C (z := (1 : Int64)) at_271 (pc' := 272) rfl rfl ?_
  refine g_ladd C at_272 (pc' := 273) rfl ?_
  refine g_l2d C at_273 (pc' := 274) rfl ?_
  refine g_dstore C at_274 (pc' := 276) rfl (Ls' := #[.val (.int p0), .val (.int p1), .val (.int p2), .val (.int z), .val (.int rc), .val (.ref a), .val (.int fo), .val (.long nn), .second, .val (.ref b46), .val (.double (FP.ddiv (own_S (own_Bb b0 b1 b2 b3 b4 b5) 6) (FP.i2d rc))), .second, .val (.double (FP.dmul (FP.dmul (FP.ddiv (own_S (own_Bb b0 b1 b2 b3 b4 b5) 6) (FP.i2d rc)) (4678677062884524032 : UInt64)) (FP.i2d rc))), .second, .val (.double (FP.l2d ((nn * (1024 : Int64)) - (1 : Int64)))), .second, .val (.double (FP.l2d ((nn * (1024 : Int64)) + (1 : Int64)))), .second]) rfl ?_
  refine g_dload C at_276 (pc' := 278) rfl rfl ?_
  refine g_dload C at_278 (pc' := 280) rfl rfl ?_
  refine g_dcmp C at_280 (pc' := 281) rfl ?_
  refine g_if_ge C at_281 (by decide) (pc' := 296) (by decide) (pcN := 284) rfl (fun q => absurd (by rw [D1]; decide) q) (fun _ => ?_)
  refine g_dload C at_284 (pc' := 286) rfl rfl ?_
  refine g_dload C at_286 (pc' := 288) rfl rfl ?_
  refine g_dcmp C at_288 (pc' := 289) rfl ?_
  refine g_if_ge C at_289 (by decide) (pc' := 296) (by decide) (pcN := 292) rfl (fun q => absurd (by rw [D2]; decide) q) (fun _ => ?_)
  refine g_iconst C (z := (1 : Int32)) at_292 (pc' := 293) rfl rfl ?_
  refine g_goto C at_293 (by decide) (pc' := 297) (by decide) ?_
  exact g_retN C (t := .boolean) rfl (by simp) at_297 rfl (by decide) (by decide)
set_option maxRecDepth 65536 in
set_option maxHeartbeats 40000000 in
theorem seg188 {l : Launch} {Z : State} {a0 : Array Value} (hw : ∀ d ∈ tables_1, d.before a0 Z = true) {w : Wk} {n0 : Nat} {h0 : Heap} {Y : State → Outcome → Prop} (p0 p1 p2 z rc fo : Int32) (nn : Int64) (b0 b1 b2 b3 b4 b5 : Bool) (a : Addr) (C : Cx w Z "com/example/rhine/rhine/retrieval/JudgedRankingAveragePrecisionPinLaw" code 18 (some .boolean) "law" room_1 n0 (fun v _ => v = some (.int 1)) Y) (A : Arf Z h0 a "[Z" .boolean z (own_G (own_Bb b0 b1 b2 b3 b4 b5) 5)) (ga : n0 ≤ a) (hz : z.toNatClampNeg ≤ 6) (hrc : 0 < rc.toInt) (hb0 : b0 = decide ((0 : Int32) < z ∧ ¬ (p1 &&& (1 : Int32)) = 0)) (hb1 : b1 = decide ((1 : Int32) < z ∧ ¬ (p1 &&& (2 : Int32)) = 0)) (hb2 : b2 = decide ((2 : Int32) < z ∧ ¬ (p1 &&& (4 : Int32)) = 0)) (hb3 : b3 = decide ((3 : Int32) < z ∧ ¬ (p1 &&& (8 : Int32)) = 0)) (hb4 : b4 = decide ((4 : Int32) < z ∧ ¬ (p1 &&& (16 : Int32)) = 0)) (hb5 : b5 = decide ((5 : Int32) < z ∧ ¬ (p1 &&& (32 : Int32)) = 0)) (hfo : own_F (own_Bb b0 b1 b2 b3 b4 b5) 5 = fo) (hnn : own_N (own_Bb b0 b1 b2 b3 b4 b5) 5 = nn) :
    Go w l room_1 n0 Y h0 1 6 188 #[.val (.int p0), .val (.int p1), .val (.int p2), .val (.int z), .val (.int rc), .val (.ref a), .val (.int fo), .val (.long nn), .second, .unset, .unset, .unset, .unset, .unset, .unset, .unset, .unset, .unset] [] := by
  refine g_iloadN C at_188 (pc' := 189) rfl rfl ?_
  refine g_iconst C (z := (5 : Int32)) at_189 (pc' := 190) rfl rfl ?_
  refine g_icmp_le C at_190 (by decide) (pc' := 222) (by decide) (pcN := 193) rfl (fun q190 => ?_) (fun q190 => ?_)
  · exact seg222 (C := C) hw p0 p1 p2 z rc fo nn b0 b1 b2 b3 b4 b5 a (A.congr fun j _ => own_G0 (k := 5) (own_z5 (hb5.trans (decide_eq_false fun h => q190 h.1))) j) ga hz hrc hb0 hb1 hb2 hb3 hb4 hb5 ((own_F0 (k := 5) (own_z5 (hb5.trans (decide_eq_false fun h => q190 h.1)))).trans hfo) ((own_N0 (k := 5) (own_z5 (hb5.trans (decide_eq_false fun h => q190 h.1)))).trans hnn)
  · refine g_iloadN C at_193 (pc' := 194) rfl rfl ?_
    refine g_bipush C (z := (32 : Int32)) at_194 (pc' := 196) rfl rfl ?_
    refine g_iand C at_196 (pc' := 197) rfl ?_
    refine g_if_eq C at_197 (by decide) (pc' := 222) (by decide) (pcN := 200) rfl (fun q197 => ?_) (fun q197 => ?_)
    · exact seg222 (C := C) hw p0 p1 p2 z rc fo nn b0 b1 b2 b3 b4 b5 a (A.congr fun j _ => own_G0 (k := 5) (own_z5 (hb5.trans (decide_eq_false fun h => h.2 q197))) j) ga hz hrc hb0 hb1 hb2 hb3 hb4 hb5 ((own_F0 (k := 5) (own_z5 (hb5.trans (decide_eq_false fun h => h.2 q197)))).trans hfo) ((own_N0 (k := 5) (own_z5 (hb5.trans (decide_eq_false fun h => h.2 q197)))).trans hnn)
    · refine g_aload C at_200 (pc' := 202) rfl rfl rfl ?_
      refine g_iconst C (z := (5 : Int32)) at_202 (pc' := 203) rfl rfl ?_
      refine g_iconst C (z := (1 : Int32)) at_203 (pc' := 204) rfl rfl ?_
      refine g_zastore C A (by decide) q190 at_204 (pc' := 205) rfl ga (fun h48 W49 A' => ?_)
      have A : Arf Z h48 a "[Z" .boolean z (upd (own_G (own_Bb b0 b1 b2 b3 b4 b5) 5) 5 (.int (1 : Int32))) := A'
      refine g_iinc C at_205 (pc' := 208) rfl rfl (z := (fo + (1 : Int32))) rfl (Ls' := #[.val (.int p0), .val (.int p1), .val (.int p2), .val (.int z), .val (.int rc), .val (.ref a), .val (.int (fo + (1 : Int32))), .val (.long nn), .second, .unset, .unset, .unset, .unset, .unset, .unset, .unset, .unset, .unset]) rfl ?_
      refine g_lload C at_208 (pc' := 210) rfl rfl ?_
      refine g_bipush C (z := (60 : Int32)) at_210 (pc' := 212) rfl rfl ?_
      refine g_iload C at_212 (pc' := 214) rfl rfl ?_
      refine g_imul C at_214 (pc' := 215) rfl ?_
      refine g_bipush C (z := (6 : Int32)) at_215 (pc' := 217) rfl rfl ?_
      refine g_idiv C at_217 (pc' := 218) rfl (by decide) ?_
      refine g_i2l C at_218 (pc' := 219) rfl ?_
      refine g_ladd C at_219 (pc' := 220) rfl ?_
      refine g_lstore C at_220 (pc' := 222) rfl (Ls' := #[.val (.int p0), .val (.int p1), .val (.int p2), .val (.int z), .val (.int rc), .val (.ref a), .val (.int (fo + (1 : Int32))), .val (.long (nn + ((((60 : Int32) * (fo + (1 : Int32))) / (6 : Int32)).toInt64))), .second, .unset, .unset, .unset, .unset, .unset, .unset, .unset, .unset, .unset]) rfl ?_
      exact seg222 (C := C) hw p0 p1 p2 z rc (fo + (1 : Int32)) (nn + ((((60 : Int32) * (fo + (1 : Int32))) / (6 : Int32)).toInt64)) b0 b1 b2 b3 b4 b5 a (A.congr fun j _ => own_G1 (k := 5) (own_o5 (hb5.trans (decide_eq_true ⟨q190, q197⟩))) j) ga hz hrc hb0 hb1 hb2 hb3 hb4 hb5 ((own_F1 (k := 5) (own_n1 (own_o5 (hb5.trans (decide_eq_true ⟨q190, q197⟩))))).trans (by rw [hfo])) ((own_N1 (k := 5) (K := (6 : Int32)) (own_n1 (own_o5 (hb5.trans (decide_eq_true ⟨q190, q197⟩)))) rfl).trans (by rw [hnn, hfo]))
set_option maxRecDepth 65536 in
set_option maxHeartbeats 40000000 in
theorem seg155 {l : Launch} {Z : State} {a0 : Array Value} (hw : ∀ d ∈ tables_1, d.before a0 Z = true) {w : Wk} {n0 : Nat} {h0 : Heap} {Y : State → Outcome → Prop} (p0 p1 p2 z rc fo : Int32) (nn : Int64) (b0 b1 b2 b3 b4 b5 : Bool) (a : Addr) (C : Cx w Z "com/example/rhine/rhine/retrieval/JudgedRankingAveragePrecisionPinLaw" code 18 (some .boolean) "law" room_1 n0 (fun v _ => v = some (.int 1)) Y) (A : Arf Z h0 a "[Z" .boolean z (own_G (own_Bb b0 b1 b2 b3 b4 b5) 4)) (ga : n0 ≤ a) (hz : z.toNatClampNeg ≤ 6) (hrc : 0 < rc.toInt) (hb0 : b0 = decide ((0 : Int32) < z ∧ ¬ (p1 &&& (1 : Int32)) = 0)) (hb1 : b1 = decide ((1 : Int32) < z ∧ ¬ (p1 &&& (2 : Int32)) = 0)) (hb2 : b2 = decide ((2 : Int32) < z ∧ ¬ (p1 &&& (4 : Int32)) = 0)) (hb3 : b3 = decide ((3 : Int32) < z ∧ ¬ (p1 &&& (8 : Int32)) = 0)) (hb4 : b4 = decide ((4 : Int32) < z ∧ ¬ (p1 &&& (16 : Int32)) = 0)) (hb5 : b5 = decide ((5 : Int32) < z ∧ ¬ (p1 &&& (32 : Int32)) = 0)) (hfo : own_F (own_Bb b0 b1 b2 b3 b4 b5) 4 = fo) (hnn : own_N (own_Bb b0 b1 b2 b3 b4 b5) 4 = nn) :
    Go w l room_1 n0 Y h0 1 6 155 #[.val (.int p0), .val (.int p1), .val (.int p2), .val (.int z), .val (.int rc), .val (.ref a), .val (.int fo), .val (.long nn), .second, .unset, .unset, .unset, .unset, .unset, .unset, .unset, .unset, .unset] [] := by
  refine g_iloadN C at_155 (pc' := 156) rfl rfl ?_
  refine g_iconst C (z := (4 : Int32)) at_156 (pc' := 157) rfl rfl ?_
  refine g_icmp_le C at_157 (by decide) (pc' := 188) (by decide) (pcN := 160) rfl (fun q157 => ?_) (fun q157 => ?_)
  · exact seg188 (C := C) hw p0 p1 p2 z rc fo nn b0 b1 b2 b3 b4 b5 a (A.congr fun j _ => own_G0 (k := 4) (own_z4 (hb4.trans (decide_eq_false fun h => q157 h.1))) j) ga hz hrc hb0 hb1 hb2 hb3 hb4 hb5 ((own_F0 (k := 4) (own_z4 (hb4.trans (decide_eq_false fun h => q157 h.1)))).trans hfo) ((own_N0 (k := 4) (own_z4 (hb4.trans (decide_eq_false fun h => q157 h.1)))).trans hnn)
  · refine g_iloadN C at_160 (pc' := 161) rfl rfl ?_
    refine g_bipush C (z := (16 : Int32)) at_161 (pc' := 163) rfl rfl ?_
    refine g_iand C at_163 (pc' := 164) rfl ?_
    refine g_if_eq C at_164 (by decide) (pc' := 188) (by decide) (pcN := 167) rfl (fun q164 => ?_) (fun q164 => ?_)
    · exact seg188 (C := C) hw p0 p1 p2 z rc fo nn b0 b1 b2 b3 b4 b5 a (A.congr fun j _ => own_G0 (k := 4) (own_z4 (hb4.trans (decide_eq_false fun h => h.2 q164))) j) ga hz hrc hb0 hb1 hb2 hb3 hb4 hb5 ((own_F0 (k := 4) (own_z4 (hb4.trans (decide_eq_false fun h => h.2 q164)))).trans hfo) ((own_N0 (k := 4) (own_z4 (hb4.trans (decide_eq_false fun h => h.2 q164)))).trans hnn)
    · refine g_aload C at_167 (pc' := 169) rfl rfl rfl ?_
      refine g_iconst C (z := (4 : Int32)) at_169 (pc' := 170) rfl rfl ?_
      refine g_iconst C (z := (1 : Int32)) at_170 (pc' := 171) rfl rfl ?_
      refine g_zastore C A (by decide) q157 at_171 (pc' := 172) rfl ga (fun h50 W51 A' => ?_)
      have A : Arf Z h50 a "[Z" .boolean z (upd (own_G (own_Bb b0 b1 b2 b3 b4 b5) 4) 4 (.int (1 : Int32))) := A'
      refine g_iinc C at_172 (pc' := 175) rfl rfl (z := (fo + (1 : Int32))) rfl (Ls' := #[.val (.int p0), .val (.int p1), .val (.int p2), .val (.int z), .val (.int rc), .val (.ref a), .val (.int (fo + (1 : Int32))), .val (.long nn), .second, .unset, .unset, .unset, .unset, .unset, .unset, .unset, .unset, .unset]) rfl ?_
      refine g_lload C at_175 (pc' := 177) rfl rfl ?_
      refine g_bipush C (z := (60 : Int32)) at_177 (pc' := 179) rfl rfl ?_
      refine g_iload C at_179 (pc' := 181) rfl rfl ?_
      refine g_imul C at_181 (pc' := 182) rfl ?_
      refine g_iconst C (z := (5 : Int32)) at_182 (pc' := 183) rfl rfl ?_
      refine g_idiv C at_183 (pc' := 184) rfl (by decide) ?_
      refine g_i2l C at_184 (pc' := 185) rfl ?_
      refine g_ladd C at_185 (pc' := 186) rfl ?_
      refine g_lstore C at_186 (pc' := 188) rfl (Ls' := #[.val (.int p0), .val (.int p1), .val (.int p2), .val (.int z), .val (.int rc), .val (.ref a), .val (.int (fo + (1 : Int32))), .val (.long (nn + ((((60 : Int32) * (fo + (1 : Int32))) / (5 : Int32)).toInt64))), .second, .unset, .unset, .unset, .unset, .unset, .unset, .unset, .unset, .unset]) rfl ?_
      exact seg188 (C := C) hw p0 p1 p2 z rc (fo + (1 : Int32)) (nn + ((((60 : Int32) * (fo + (1 : Int32))) / (5 : Int32)).toInt64)) b0 b1 b2 b3 b4 b5 a (A.congr fun j _ => own_G1 (k := 4) (own_o4 (hb4.trans (decide_eq_true ⟨q157, q164⟩))) j) ga hz hrc hb0 hb1 hb2 hb3 hb4 hb5 ((own_F1 (k := 4) (own_n1 (own_o4 (hb4.trans (decide_eq_true ⟨q157, q164⟩))))).trans (by rw [hfo])) ((own_N1 (k := 4) (K := (5 : Int32)) (own_n1 (own_o4 (hb4.trans (decide_eq_true ⟨q157, q164⟩)))) rfl).trans (by rw [hnn, hfo]))
set_option maxRecDepth 65536 in
set_option maxHeartbeats 40000000 in
theorem seg122 {l : Launch} {Z : State} {a0 : Array Value} (hw : ∀ d ∈ tables_1, d.before a0 Z = true) {w : Wk} {n0 : Nat} {h0 : Heap} {Y : State → Outcome → Prop} (p0 p1 p2 z rc fo : Int32) (nn : Int64) (b0 b1 b2 b3 b4 b5 : Bool) (a : Addr) (C : Cx w Z "com/example/rhine/rhine/retrieval/JudgedRankingAveragePrecisionPinLaw" code 18 (some .boolean) "law" room_1 n0 (fun v _ => v = some (.int 1)) Y) (A : Arf Z h0 a "[Z" .boolean z (own_G (own_Bb b0 b1 b2 b3 b4 b5) 3)) (ga : n0 ≤ a) (hz : z.toNatClampNeg ≤ 6) (hrc : 0 < rc.toInt) (hb0 : b0 = decide ((0 : Int32) < z ∧ ¬ (p1 &&& (1 : Int32)) = 0)) (hb1 : b1 = decide ((1 : Int32) < z ∧ ¬ (p1 &&& (2 : Int32)) = 0)) (hb2 : b2 = decide ((2 : Int32) < z ∧ ¬ (p1 &&& (4 : Int32)) = 0)) (hb3 : b3 = decide ((3 : Int32) < z ∧ ¬ (p1 &&& (8 : Int32)) = 0)) (hb4 : b4 = decide ((4 : Int32) < z ∧ ¬ (p1 &&& (16 : Int32)) = 0)) (hb5 : b5 = decide ((5 : Int32) < z ∧ ¬ (p1 &&& (32 : Int32)) = 0)) (hfo : own_F (own_Bb b0 b1 b2 b3 b4 b5) 3 = fo) (hnn : own_N (own_Bb b0 b1 b2 b3 b4 b5) 3 = nn) :
    Go w l room_1 n0 Y h0 1 6 122 #[.val (.int p0), .val (.int p1), .val (.int p2), .val (.int z), .val (.int rc), .val (.ref a), .val (.int fo), .val (.long nn), .second, .unset, .unset, .unset, .unset, .unset, .unset, .unset, .unset, .unset] [] := by
  refine g_iloadN C at_122 (pc' := 123) rfl rfl ?_
  refine g_iconst C (z := (3 : Int32)) at_123 (pc' := 124) rfl rfl ?_
  refine g_icmp_le C at_124 (by decide) (pc' := 155) (by decide) (pcN := 127) rfl (fun q124 => ?_) (fun q124 => ?_)
  · exact seg155 (C := C) hw p0 p1 p2 z rc fo nn b0 b1 b2 b3 b4 b5 a (A.congr fun j _ => own_G0 (k := 3) (own_z3 (hb3.trans (decide_eq_false fun h => q124 h.1))) j) ga hz hrc hb0 hb1 hb2 hb3 hb4 hb5 ((own_F0 (k := 3) (own_z3 (hb3.trans (decide_eq_false fun h => q124 h.1)))).trans hfo) ((own_N0 (k := 3) (own_z3 (hb3.trans (decide_eq_false fun h => q124 h.1)))).trans hnn)
  · refine g_iloadN C at_127 (pc' := 128) rfl rfl ?_
    refine g_bipush C (z := (8 : Int32)) at_128 (pc' := 130) rfl rfl ?_
    refine g_iand C at_130 (pc' := 131) rfl ?_
    refine g_if_eq C at_131 (by decide) (pc' := 155) (by decide) (pcN := 134) rfl (fun q131 => ?_) (fun q131 => ?_)
    · exact seg155 (C := C) hw p0 p1 p2 z rc fo nn b0 b1 b2 b3 b4 b5 a (A.congr fun j _ => own_G0 (k := 3) (own_z3 (hb3.trans (decide_eq_false fun h => h.2 q131))) j) ga hz hrc hb0 hb1 hb2 hb3 hb4 hb5 ((own_F0 (k := 3) (own_z3 (hb3.trans (decide_eq_false fun h => h.2 q131)))).trans hfo) ((own_N0 (k := 3) (own_z3 (hb3.trans (decide_eq_false fun h => h.2 q131)))).trans hnn)
    · refine g_aload C at_134 (pc' := 136) rfl rfl rfl ?_
      refine g_iconst C (z := (3 : Int32)) at_136 (pc' := 137) rfl rfl ?_
      refine g_iconst C (z := (1 : Int32)) at_137 (pc' := 138) rfl rfl ?_
      refine g_zastore C A (by decide) q124 at_138 (pc' := 139) rfl ga (fun h52 W53 A' => ?_)
      have A : Arf Z h52 a "[Z" .boolean z (upd (own_G (own_Bb b0 b1 b2 b3 b4 b5) 3) 3 (.int (1 : Int32))) := A'
      refine g_iinc C at_139 (pc' := 142) rfl rfl (z := (fo + (1 : Int32))) rfl (Ls' := #[.val (.int p0), .val (.int p1), .val (.int p2), .val (.int z), .val (.int rc), .val (.ref a), .val (.int (fo + (1 : Int32))), .val (.long nn), .second, .unset, .unset, .unset, .unset, .unset, .unset, .unset, .unset, .unset]) rfl ?_
      refine g_lload C at_142 (pc' := 144) rfl rfl ?_
      refine g_bipush C (z := (60 : Int32)) at_144 (pc' := 146) rfl rfl ?_
      refine g_iload C at_146 (pc' := 148) rfl rfl ?_
      refine g_imul C at_148 (pc' := 149) rfl ?_
      refine g_iconst C (z := (4 : Int32)) at_149 (pc' := 150) rfl rfl ?_
      refine g_idiv C at_150 (pc' := 151) rfl (by decide) ?_
      refine g_i2l C at_151 (pc' := 152) rfl ?_
      refine g_ladd C at_152 (pc' := 153) rfl ?_
      refine g_lstore C at_153 (pc' := 155) rfl (Ls' := #[.val (.int p0), .val (.int p1), .val (.int p2), .val (.int z), .val (.int rc), .val (.ref a), .val (.int (fo + (1 : Int32))), .val (.long (nn + ((((60 : Int32) * (fo + (1 : Int32))) / (4 : Int32)).toInt64))), .second, .unset, .unset, .unset, .unset, .unset, .unset, .unset, .unset, .unset]) rfl ?_
      exact seg155 (C := C) hw p0 p1 p2 z rc (fo + (1 : Int32)) (nn + ((((60 : Int32) * (fo + (1 : Int32))) / (4 : Int32)).toInt64)) b0 b1 b2 b3 b4 b5 a (A.congr fun j _ => own_G1 (k := 3) (own_o3 (hb3.trans (decide_eq_true ⟨q124, q131⟩))) j) ga hz hrc hb0 hb1 hb2 hb3 hb4 hb5 ((own_F1 (k := 3) (own_n1 (own_o3 (hb3.trans (decide_eq_true ⟨q124, q131⟩))))).trans (by rw [hfo])) ((own_N1 (k := 3) (K := (4 : Int32)) (own_n1 (own_o3 (hb3.trans (decide_eq_true ⟨q124, q131⟩)))) rfl).trans (by rw [hnn, hfo]))
set_option maxRecDepth 65536 in
set_option maxHeartbeats 40000000 in
theorem seg90 {l : Launch} {Z : State} {a0 : Array Value} (hw : ∀ d ∈ tables_1, d.before a0 Z = true) {w : Wk} {n0 : Nat} {h0 : Heap} {Y : State → Outcome → Prop} (p0 p1 p2 z rc fo : Int32) (nn : Int64) (b0 b1 b2 b3 b4 b5 : Bool) (a : Addr) (C : Cx w Z "com/example/rhine/rhine/retrieval/JudgedRankingAveragePrecisionPinLaw" code 18 (some .boolean) "law" room_1 n0 (fun v _ => v = some (.int 1)) Y) (A : Arf Z h0 a "[Z" .boolean z (own_G (own_Bb b0 b1 b2 b3 b4 b5) 2)) (ga : n0 ≤ a) (hz : z.toNatClampNeg ≤ 6) (hrc : 0 < rc.toInt) (hb0 : b0 = decide ((0 : Int32) < z ∧ ¬ (p1 &&& (1 : Int32)) = 0)) (hb1 : b1 = decide ((1 : Int32) < z ∧ ¬ (p1 &&& (2 : Int32)) = 0)) (hb2 : b2 = decide ((2 : Int32) < z ∧ ¬ (p1 &&& (4 : Int32)) = 0)) (hb3 : b3 = decide ((3 : Int32) < z ∧ ¬ (p1 &&& (8 : Int32)) = 0)) (hb4 : b4 = decide ((4 : Int32) < z ∧ ¬ (p1 &&& (16 : Int32)) = 0)) (hb5 : b5 = decide ((5 : Int32) < z ∧ ¬ (p1 &&& (32 : Int32)) = 0)) (hfo : own_F (own_Bb b0 b1 b2 b3 b4 b5) 2 = fo) (hnn : own_N (own_Bb b0 b1 b2 b3 b4 b5) 2 = nn) :
    Go w l room_1 n0 Y h0 1 6 90 #[.val (.int p0), .val (.int p1), .val (.int p2), .val (.int z), .val (.int rc), .val (.ref a), .val (.int fo), .val (.long nn), .second, .unset, .unset, .unset, .unset, .unset, .unset, .unset, .unset, .unset] [] := by
  refine g_iloadN C at_90 (pc' := 91) rfl rfl ?_
  refine g_iconst C (z := (2 : Int32)) at_91 (pc' := 92) rfl rfl ?_
  refine g_icmp_le C at_92 (by decide) (pc' := 122) (by decide) (pcN := 95) rfl (fun q92 => ?_) (fun q92 => ?_)
  · exact seg122 (C := C) hw p0 p1 p2 z rc fo nn b0 b1 b2 b3 b4 b5 a (A.congr fun j _ => own_G0 (k := 2) (own_z2 (hb2.trans (decide_eq_false fun h => q92 h.1))) j) ga hz hrc hb0 hb1 hb2 hb3 hb4 hb5 ((own_F0 (k := 2) (own_z2 (hb2.trans (decide_eq_false fun h => q92 h.1)))).trans hfo) ((own_N0 (k := 2) (own_z2 (hb2.trans (decide_eq_false fun h => q92 h.1)))).trans hnn)
  · refine g_iloadN C at_95 (pc' := 96) rfl rfl ?_
    refine g_iconst C (z := (4 : Int32)) at_96 (pc' := 97) rfl rfl ?_
    refine g_iand C at_97 (pc' := 98) rfl ?_
    refine g_if_eq C at_98 (by decide) (pc' := 122) (by decide) (pcN := 101) rfl (fun q98 => ?_) (fun q98 => ?_)
    · exact seg122 (C := C) hw p0 p1 p2 z rc fo nn b0 b1 b2 b3 b4 b5 a (A.congr fun j _ => own_G0 (k := 2) (own_z2 (hb2.trans (decide_eq_false fun h => h.2 q98))) j) ga hz hrc hb0 hb1 hb2 hb3 hb4 hb5 ((own_F0 (k := 2) (own_z2 (hb2.trans (decide_eq_false fun h => h.2 q98)))).trans hfo) ((own_N0 (k := 2) (own_z2 (hb2.trans (decide_eq_false fun h => h.2 q98)))).trans hnn)
    · refine g_aload C at_101 (pc' := 103) rfl rfl rfl ?_
      refine g_iconst C (z := (2 : Int32)) at_103 (pc' := 104) rfl rfl ?_
      refine g_iconst C (z := (1 : Int32)) at_104 (pc' := 105) rfl rfl ?_
      refine g_zastore C A (by decide) q92 at_105 (pc' := 106) rfl ga (fun h54 W55 A' => ?_)
      have A : Arf Z h54 a "[Z" .boolean z (upd (own_G (own_Bb b0 b1 b2 b3 b4 b5) 2) 2 (.int (1 : Int32))) := A'
      refine g_iinc C at_106 (pc' := 109) rfl rfl (z := (fo + (1 : Int32))) rfl (Ls' := #[.val (.int p0), .val (.int p1), .val (.int p2), .val (.int z), .val (.int rc), .val (.ref a), .val (.int (fo + (1 : Int32))), .val (.long nn), .second, .unset, .unset, .unset, .unset, .unset, .unset, .unset, .unset, .unset]) rfl ?_
      refine g_lload C at_109 (pc' := 111) rfl rfl ?_
      refine g_bipush C (z := (60 : Int32)) at_111 (pc' := 113) rfl rfl ?_
      refine g_iload C at_113 (pc' := 115) rfl rfl ?_
      refine g_imul C at_115 (pc' := 116) rfl ?_
      refine g_iconst C (z := (3 : Int32)) at_116 (pc' := 117) rfl rfl ?_
      refine g_idiv C at_117 (pc' := 118) rfl (by decide) ?_
      refine g_i2l C at_118 (pc' := 119) rfl ?_
      refine g_ladd C at_119 (pc' := 120) rfl ?_
      refine g_lstore C at_120 (pc' := 122) rfl (Ls' := #[.val (.int p0), .val (.int p1), .val (.int p2), .val (.int z), .val (.int rc), .val (.ref a), .val (.int (fo + (1 : Int32))), .val (.long (nn + ((((60 : Int32) * (fo + (1 : Int32))) / (3 : Int32)).toInt64))), .second, .unset, .unset, .unset, .unset, .unset, .unset, .unset, .unset, .unset]) rfl ?_
      exact seg122 (C := C) hw p0 p1 p2 z rc (fo + (1 : Int32)) (nn + ((((60 : Int32) * (fo + (1 : Int32))) / (3 : Int32)).toInt64)) b0 b1 b2 b3 b4 b5 a (A.congr fun j _ => own_G1 (k := 2) (own_o2 (hb2.trans (decide_eq_true ⟨q92, q98⟩))) j) ga hz hrc hb0 hb1 hb2 hb3 hb4 hb5 ((own_F1 (k := 2) (own_n1 (own_o2 (hb2.trans (decide_eq_true ⟨q92, q98⟩))))).trans (by rw [hfo])) ((own_N1 (k := 2) (K := (3 : Int32)) (own_n1 (own_o2 (hb2.trans (decide_eq_true ⟨q92, q98⟩)))) rfl).trans (by rw [hnn, hfo]))
set_option maxRecDepth 65536 in
set_option maxHeartbeats 40000000 in
theorem seg58 {l : Launch} {Z : State} {a0 : Array Value} (hw : ∀ d ∈ tables_1, d.before a0 Z = true) {w : Wk} {n0 : Nat} {h0 : Heap} {Y : State → Outcome → Prop} (p0 p1 p2 z rc fo : Int32) (nn : Int64) (b0 b1 b2 b3 b4 b5 : Bool) (a : Addr) (C : Cx w Z "com/example/rhine/rhine/retrieval/JudgedRankingAveragePrecisionPinLaw" code 18 (some .boolean) "law" room_1 n0 (fun v _ => v = some (.int 1)) Y) (A : Arf Z h0 a "[Z" .boolean z (own_G (own_Bb b0 b1 b2 b3 b4 b5) 1)) (ga : n0 ≤ a) (hz : z.toNatClampNeg ≤ 6) (hrc : 0 < rc.toInt) (hb0 : b0 = decide ((0 : Int32) < z ∧ ¬ (p1 &&& (1 : Int32)) = 0)) (hb1 : b1 = decide ((1 : Int32) < z ∧ ¬ (p1 &&& (2 : Int32)) = 0)) (hb2 : b2 = decide ((2 : Int32) < z ∧ ¬ (p1 &&& (4 : Int32)) = 0)) (hb3 : b3 = decide ((3 : Int32) < z ∧ ¬ (p1 &&& (8 : Int32)) = 0)) (hb4 : b4 = decide ((4 : Int32) < z ∧ ¬ (p1 &&& (16 : Int32)) = 0)) (hb5 : b5 = decide ((5 : Int32) < z ∧ ¬ (p1 &&& (32 : Int32)) = 0)) (hfo : own_F (own_Bb b0 b1 b2 b3 b4 b5) 1 = fo) (hnn : own_N (own_Bb b0 b1 b2 b3 b4 b5) 1 = nn) :
    Go w l room_1 n0 Y h0 1 6 58 #[.val (.int p0), .val (.int p1), .val (.int p2), .val (.int z), .val (.int rc), .val (.ref a), .val (.int fo), .val (.long nn), .second, .unset, .unset, .unset, .unset, .unset, .unset, .unset, .unset, .unset] [] := by
  refine g_iloadN C at_58 (pc' := 59) rfl rfl ?_
  refine g_iconst C (z := (1 : Int32)) at_59 (pc' := 60) rfl rfl ?_
  refine g_icmp_le C at_60 (by decide) (pc' := 90) (by decide) (pcN := 63) rfl (fun q60 => ?_) (fun q60 => ?_)
  · exact seg90 (C := C) hw p0 p1 p2 z rc fo nn b0 b1 b2 b3 b4 b5 a (A.congr fun j _ => own_G0 (k := 1) (own_z1 (hb1.trans (decide_eq_false fun h => q60 h.1))) j) ga hz hrc hb0 hb1 hb2 hb3 hb4 hb5 ((own_F0 (k := 1) (own_z1 (hb1.trans (decide_eq_false fun h => q60 h.1)))).trans hfo) ((own_N0 (k := 1) (own_z1 (hb1.trans (decide_eq_false fun h => q60 h.1)))).trans hnn)
  · refine g_iloadN C at_63 (pc' := 64) rfl rfl ?_
    refine g_iconst C (z := (2 : Int32)) at_64 (pc' := 65) rfl rfl ?_
    refine g_iand C at_65 (pc' := 66) rfl ?_
    refine g_if_eq C at_66 (by decide) (pc' := 90) (by decide) (pcN := 69) rfl (fun q66 => ?_) (fun q66 => ?_)
    · exact seg90 (C := C) hw p0 p1 p2 z rc fo nn b0 b1 b2 b3 b4 b5 a (A.congr fun j _ => own_G0 (k := 1) (own_z1 (hb1.trans (decide_eq_false fun h => h.2 q66))) j) ga hz hrc hb0 hb1 hb2 hb3 hb4 hb5 ((own_F0 (k := 1) (own_z1 (hb1.trans (decide_eq_false fun h => h.2 q66)))).trans hfo) ((own_N0 (k := 1) (own_z1 (hb1.trans (decide_eq_false fun h => h.2 q66)))).trans hnn)
    · refine g_aload C at_69 (pc' := 71) rfl rfl rfl ?_
      refine g_iconst C (z := (1 : Int32)) at_71 (pc' := 72) rfl rfl ?_
      refine g_iconst C (z := (1 : Int32)) at_72 (pc' := 73) rfl rfl ?_
      refine g_zastore C A (by decide) q60 at_73 (pc' := 74) rfl ga (fun h56 W57 A' => ?_)
      have A : Arf Z h56 a "[Z" .boolean z (upd (own_G (own_Bb b0 b1 b2 b3 b4 b5) 1) 1 (.int (1 : Int32))) := A'
      refine g_iinc C at_74 (pc' := 77) rfl rfl (z := (fo + (1 : Int32))) rfl (Ls' := #[.val (.int p0), .val (.int p1), .val (.int p2), .val (.int z), .val (.int rc), .val (.ref a), .val (.int (fo + (1 : Int32))), .val (.long nn), .second, .unset, .unset, .unset, .unset, .unset, .unset, .unset, .unset, .unset]) rfl ?_
      refine g_lload C at_77 (pc' := 79) rfl rfl ?_
      refine g_bipush C (z := (60 : Int32)) at_79 (pc' := 81) rfl rfl ?_
      refine g_iload C at_81 (pc' := 83) rfl rfl ?_
      refine g_imul C at_83 (pc' := 84) rfl ?_
      refine g_iconst C (z := (2 : Int32)) at_84 (pc' := 85) rfl rfl ?_
      refine g_idiv C at_85 (pc' := 86) rfl (by decide) ?_
      refine g_i2l C at_86 (pc' := 87) rfl ?_
      refine g_ladd C at_87 (pc' := 88) rfl ?_
      refine g_lstore C at_88 (pc' := 90) rfl (Ls' := #[.val (.int p0), .val (.int p1), .val (.int p2), .val (.int z), .val (.int rc), .val (.ref a), .val (.int (fo + (1 : Int32))), .val (.long (nn + ((((60 : Int32) * (fo + (1 : Int32))) / (2 : Int32)).toInt64))), .second, .unset, .unset, .unset, .unset, .unset, .unset, .unset, .unset, .unset]) rfl ?_
      exact seg90 (C := C) hw p0 p1 p2 z rc (fo + (1 : Int32)) (nn + ((((60 : Int32) * (fo + (1 : Int32))) / (2 : Int32)).toInt64)) b0 b1 b2 b3 b4 b5 a (A.congr fun j _ => own_G1 (k := 1) (own_o1 (hb1.trans (decide_eq_true ⟨q60, q66⟩))) j) ga hz hrc hb0 hb1 hb2 hb3 hb4 hb5 ((own_F1 (k := 1) (own_n1 (own_o1 (hb1.trans (decide_eq_true ⟨q60, q66⟩))))).trans (by rw [hfo])) ((own_N1 (k := 1) (K := (2 : Int32)) (own_n1 (own_o1 (hb1.trans (decide_eq_true ⟨q60, q66⟩)))) rfl).trans (by rw [hnn, hfo]))
set_option maxRecDepth 65536 in
set_option maxHeartbeats 40000000 in
theorem seg27 {l : Launch} {Z : State} {a0 : Array Value} (hw : ∀ d ∈ tables_1, d.before a0 Z = true) {w : Wk} {n0 : Nat} {h0 : Heap} {Y : State → Outcome → Prop} (p0 p1 p2 z rc fo : Int32) (nn : Int64) (b0 b1 b2 b3 b4 b5 : Bool) (a : Addr) (C : Cx w Z "com/example/rhine/rhine/retrieval/JudgedRankingAveragePrecisionPinLaw" code 18 (some .boolean) "law" room_1 n0 (fun v _ => v = some (.int 1)) Y) (A : Arf Z h0 a "[Z" .boolean z (own_G (own_Bb b0 b1 b2 b3 b4 b5) 0)) (ga : n0 ≤ a) (hz : z.toNatClampNeg ≤ 6) (hrc : 0 < rc.toInt) (hb0 : b0 = decide ((0 : Int32) < z ∧ ¬ (p1 &&& (1 : Int32)) = 0)) (hb1 : b1 = decide ((1 : Int32) < z ∧ ¬ (p1 &&& (2 : Int32)) = 0)) (hb2 : b2 = decide ((2 : Int32) < z ∧ ¬ (p1 &&& (4 : Int32)) = 0)) (hb3 : b3 = decide ((3 : Int32) < z ∧ ¬ (p1 &&& (8 : Int32)) = 0)) (hb4 : b4 = decide ((4 : Int32) < z ∧ ¬ (p1 &&& (16 : Int32)) = 0)) (hb5 : b5 = decide ((5 : Int32) < z ∧ ¬ (p1 &&& (32 : Int32)) = 0)) (hfo : own_F (own_Bb b0 b1 b2 b3 b4 b5) 0 = fo) (hnn : own_N (own_Bb b0 b1 b2 b3 b4 b5) 0 = nn) :
    Go w l room_1 n0 Y h0 1 6 27 #[.val (.int p0), .val (.int p1), .val (.int p2), .val (.int z), .val (.int rc), .val (.ref a), .val (.int fo), .val (.long nn), .second, .unset, .unset, .unset, .unset, .unset, .unset, .unset, .unset, .unset] [] := by
  refine g_iloadN C at_27 (pc' := 28) rfl rfl ?_
  refine g_if_le C at_28 (by decide) (pc' := 58) (by decide) (pcN := 31) rfl (fun q28 => ?_) (fun q28 => ?_)
  · exact seg58 (C := C) hw p0 p1 p2 z rc fo nn b0 b1 b2 b3 b4 b5 a (A.congr fun j _ => own_G0 (k := 0) (own_z0 (hb0.trans (decide_eq_false fun h => q28 h.1))) j) ga hz hrc hb0 hb1 hb2 hb3 hb4 hb5 ((own_F0 (k := 0) (own_z0 (hb0.trans (decide_eq_false fun h => q28 h.1)))).trans hfo) ((own_N0 (k := 0) (own_z0 (hb0.trans (decide_eq_false fun h => q28 h.1)))).trans hnn)
  · refine g_iloadN C at_31 (pc' := 32) rfl rfl ?_
    refine g_iconst C (z := (1 : Int32)) at_32 (pc' := 33) rfl rfl ?_
    refine g_iand C at_33 (pc' := 34) rfl ?_
    refine g_if_eq C at_34 (by decide) (pc' := 58) (by decide) (pcN := 37) rfl (fun q34 => ?_) (fun q34 => ?_)
    · exact seg58 (C := C) hw p0 p1 p2 z rc fo nn b0 b1 b2 b3 b4 b5 a (A.congr fun j _ => own_G0 (k := 0) (own_z0 (hb0.trans (decide_eq_false fun h => h.2 q34))) j) ga hz hrc hb0 hb1 hb2 hb3 hb4 hb5 ((own_F0 (k := 0) (own_z0 (hb0.trans (decide_eq_false fun h => h.2 q34)))).trans hfo) ((own_N0 (k := 0) (own_z0 (hb0.trans (decide_eq_false fun h => h.2 q34)))).trans hnn)
    · refine g_aload C at_37 (pc' := 39) rfl rfl rfl ?_
      refine g_iconst C (z := (0 : Int32)) at_39 (pc' := 40) rfl rfl ?_
      refine g_iconst C (z := (1 : Int32)) at_40 (pc' := 41) rfl rfl ?_
      refine g_zastore C A (by decide) q28 at_41 (pc' := 42) rfl ga (fun h58 W59 A' => ?_)
      have A : Arf Z h58 a "[Z" .boolean z (upd (own_G (own_Bb b0 b1 b2 b3 b4 b5) 0) 0 (.int (1 : Int32))) := A'
      refine g_iinc C at_42 (pc' := 45) rfl rfl (z := (fo + (1 : Int32))) rfl (Ls' := #[.val (.int p0), .val (.int p1), .val (.int p2), .val (.int z), .val (.int rc), .val (.ref a), .val (.int (fo + (1 : Int32))), .val (.long nn), .second, .unset, .unset, .unset, .unset, .unset, .unset, .unset, .unset, .unset]) rfl ?_
      refine g_lload C at_45 (pc' := 47) rfl rfl ?_
      refine g_bipush C (z := (60 : Int32)) at_47 (pc' := 49) rfl rfl ?_
      refine g_iload C at_49 (pc' := 51) rfl rfl ?_
      refine g_imul C at_51 (pc' := 52) rfl ?_
      refine g_iconst C (z := (1 : Int32)) at_52 (pc' := 53) rfl rfl ?_
      refine g_idiv C at_53 (pc' := 54) rfl (by decide) ?_
      refine g_i2l C at_54 (pc' := 55) rfl ?_
      refine g_ladd C at_55 (pc' := 56) rfl ?_
      refine g_lstore C at_56 (pc' := 58) rfl (Ls' := #[.val (.int p0), .val (.int p1), .val (.int p2), .val (.int z), .val (.int rc), .val (.ref a), .val (.int (fo + (1 : Int32))), .val (.long (nn + ((((60 : Int32) * (fo + (1 : Int32))) / (1 : Int32)).toInt64))), .second, .unset, .unset, .unset, .unset, .unset, .unset, .unset, .unset, .unset]) rfl ?_
      exact seg58 (C := C) hw p0 p1 p2 z rc (fo + (1 : Int32)) (nn + ((((60 : Int32) * (fo + (1 : Int32))) / (1 : Int32)).toInt64)) b0 b1 b2 b3 b4 b5 a (A.congr fun j _ => own_G1 (k := 0) (own_o0 (hb0.trans (decide_eq_true ⟨q28, q34⟩))) j) ga hz hrc hb0 hb1 hb2 hb3 hb4 hb5 ((own_F1 (k := 0) (own_n1 (own_o0 (hb0.trans (decide_eq_true ⟨q28, q34⟩))))).trans (by rw [hfo])) ((own_N1 (k := 0) (K := (1 : Int32)) (own_n1 (own_o0 (hb0.trans (decide_eq_true ⟨q28, q34⟩)))) rfl).trans (by rw [hnn, hfo]))
set_option maxRecDepth 65536 in
set_option maxHeartbeats 40000000 in
theorem seg16 {l : Launch} {Z : State} {a0 : Array Value} (hw : ∀ d ∈ tables_1, d.before a0 Z = true) {w : Wk} {n0 : Nat} {h0 : Heap} {Y : State → Outcome → Prop} (p0 p1 p2 z rc : Int32) (C : Cx w Z "com/example/rhine/rhine/retrieval/JudgedRankingAveragePrecisionPinLaw" code 18 (some .boolean) "law" room_1 n0 (fun v _ => v = some (.int 1)) Y) (h0z : ¬ z < 0) (hz : z.toNatClampNeg ≤ 6) (hrc : 0 < rc.toInt) :
    Go w l room_1 n0 Y h0 0 0 16 #[.val (.int p0), .val (.int p1), .val (.int p2), .val (.int z), .val (.int rc), .unset, .unset, .unset, .unset, .unset, .unset, .unset, .unset, .unset, .unset, .unset, .unset, .unset] [] := by
  refine g_iloadN C at_16 (pc' := 17) rfl rfl ?_
  refine g_newarr C (ad := "[Z") (cap := 6) (hw _ (List.mem_of_getElem? (i := 2) rfl)) at_17 (pc' := 19) rfl rfl h0z hz (by decide) (k' := 1) (n' := 6) rfl rfl (by decide) (by decide) rfl ?_
  intro h60 b60 E60 fb60 gb60 A60
  have A60 : Arf Z h60 b60 "[Z" .boolean z (fun _ => (.int 0)) := A60
  refine g_astore C at_19 (pc' := 21) rfl rfl (Ls' := #[.val (.int p0), .val (.int p1), .val (.int p2), .val (.int z), .val (.int rc), .val (.ref b60), .unset, .unset, .unset, .unset, .unset, .unset, .unset, .unset, .unset, .unset, .unset, .unset]) rfl ?_
  refine g_iconst C (z := (0 : Int32)) at_21 (pc' := 22) rfl rfl ?_
  refine g_istore C at_22 (pc' := 24) rfl (Ls' := #[.val (.int p0), .val (.int p1), .val (.int p2), .val (.int z), .val (.int rc), .val (.ref b60), .val (.int (0 : Int32)), .unset, .unset, .unset, .unset, .unset, .unset, .unset, .unset, .unset, .unset, .unset]) rfl ?_
  refine g_lconst C (z := (0 : Int64)) at_24 (pc' := 25) rfl rfl ?_
  refine g_lstore C at_25 (pc' := 27) rfl (Ls' := #[.val (.int p0), .val (.int p1), .val (.int p2), .val (.int z), .val (.int rc), .val (.ref b60), .val (.int (0 : Int32)), .val (.long (0 : Int64)), .second, .unset, .unset, .unset, .unset, .unset, .unset, .unset, .unset, .unset]) rfl ?_
  exact seg27 (C := C) hw p0 p1 p2 z rc (0 : Int32) (0 : Int64) (decide ((0 : Int32) < z ∧ ¬ (p1 &&& (1 : Int32)) = 0)) (decide ((1 : Int32) < z ∧ ¬ (p1 &&& (2 : Int32)) = 0)) (decide ((2 : Int32) < z ∧ ¬ (p1 &&& (4 : Int32)) = 0)) (decide ((3 : Int32) < z ∧ ¬ (p1 &&& (8 : Int32)) = 0)) (decide ((4 : Int32) < z ∧ ¬ (p1 &&& (16 : Int32)) = 0)) (decide ((5 : Int32) < z ∧ ¬ (p1 &&& (32 : Int32)) = 0)) b60 (A60.congr fun j _ => by simp [own_G]) gb60 hz hrc rfl rfl rfl rfl rfl rfl rfl rfl
set_option maxRecDepth 65536 in
set_option maxHeartbeats 40000000 in
theorem law0 {l : Launch} {Z : State} {a0 : Array Value} (hw : ∀ d ∈ tables_1, d.before a0 Z = true) {h0 : Heap} {n0 : Nat} (p0 p1 p2 : Int32)  :
    Met l Z x code maxLocals ret room_1 n0 h0 #[(.int p0), (.int p1), (.int p2)] (fun v _ => v = some (.int 1)) := by
  refine Met.intro (plainFor_of_name (by first | (simp [plainName, overriddenIn, x]; done) | decide +kernel)) (fun mM => (show entryFrame mM #[(.int p0), (.int p1), (.int p2)] maxLocals = mkF mM 0 #[.val (.int p0), .val (.int p1), .val (.int p2), .unset, .unset, .unset, .unset, .unset, .unset, .unset, .unset, .unset, .unset, .unset, .unset, .unset, .unset, .unset] [] from by first | (simp [entryFrame, mkF, argsToLocals, Value.category, maxLocals]; done))) (fun w Y C => ?_)
  have C : Cx w Z "com/example/rhine/rhine/retrieval/JudgedRankingAveragePrecisionPinLaw" code 18 (some .boolean) "law" room_1 n0 _ Y := C
  refine g_iloadN C at_0 (pc' := 1) rfl rfl ?_
  refine g_ldcI C (hw _ (List.mem_of_getElem? (i := 0) rfl)) at_1 (pc' := 3) rfl ?_
  refine g_iand C at_3 (pc' := 4) rfl ?_
  refine g_bipush C (z := (7 : Int32)) at_4 (pc' := 6) rfl rfl ?_
  refine g_irem C at_6 (pc' := 7) rfl (by decide) ?_
  refine g_istoreN C at_7 (pc' := 8) rfl (Ls' := #[.val (.int p0), .val (.int p1), .val (.int p2), .val (.int ((p0 &&& (2147483647 : Int32)) % (7 : Int32))), .unset, .unset, .unset, .unset, .unset, .unset, .unset, .unset, .unset, .unset, .unset, .unset, .unset, .unset]) rfl ?_
  refine g_iloadN C at_8 (pc' := 9) rfl rfl ?_
  refine g_ldcI C (hw _ (List.mem_of_getElem? (i := 1) rfl)) at_9 (pc' := 11) rfl ?_
  refine g_iand C at_11 (pc' := 12) rfl ?_
  refine g_iconst C (z := (1 : Int32)) at_12 (pc' := 13) rfl rfl ?_
  refine g_iadd C at_13 (pc' := 14) rfl ?_
  refine g_istore C at_14 (pc' := 16) rfl (Ls' := #[.val (.int p0), .val (.int p1), .val (.int p2), .val (.int ((p0 &&& (2147483647 : Int32)) % (7 : Int32))), .val (.int ((p2 &&& (1073741823 : Int32)) + (1 : Int32))), .unset, .unset, .unset, .unset, .unset, .unset, .unset, .unset, .unset, .unset, .unset, .unset, .unset]) rfl ?_
  exact seg16 (C := C) hw p0 p1 p2 _ _ (own_and7 p0).1 (own_and7 p0).2 (own_rc p2)
set_option maxRecDepth 65536 in
set_option maxHeartbeats 40000000 in
theorem comes_1 {Post : Tables → Env → Array Value → State → Outcome → State → Prop} (hpost : ∀ tb e args s v u, (limb_1_1.after args s (.returned v) u = true ∧ limb_1_2.after args s (.returned v) u = true ∧ True) → FrameEnd s (.returned v) u (Jvm.fieldLocs frame_1_writes args s ++ Jvm.arrayLocs frame_1_arrays args s ++ Jvm.staticLocs frame_1_statics s) 16 128 → Post tb e args s (.returned v) u) :
    ArmFor flags0 classFile x code maxLocals ret World_1 tables_1 room_1 Calls_1 rest_1 Pre_1 Post := by
  intro l hfl _ _ p e ha hc hk s m args below hf hA hF happ hP
  obtain ⟨hcalls, hrest, hpre⟩ := hP
  obtain ⟨-, -, -, hnamed, -, -, -, hat⟩ := (Spec.applies_iff hf).mp happ
  obtain ⟨hg, hn⟩ := and_e (Cond.before_iff.mp (show (Jvm.Cond.and given_1 narrow_1).before args s = true from hpre))
  obtain ⟨g0, r0⟩ := and_e hg
  obtain ⟨g1, r1⟩ := and_e r0
  obtain ⟨g2, r2⟩ := and_e r1
  have g3 := r2
  obtain ⟨w0, w1, w2, rfl⟩ : ∃ w0 w1 w2 : Value, args = #[w0, w1, w2] := by
    have hs : args.size = 3 := by simpa [Cond.value, given_1] using g0
    obtain ⟨L⟩ := args
    match L, hs with
    | [w0, w1, w2], _ => exact ⟨w0, w1, w2, rfl⟩
  have hw := fun d (hd : d ∈ tables_1) => atoms_spec (ws := Jvm.Cond.code x code maxLocals ret :: tables_1) hat d (List.mem_cons_of_mem _ hd)
  have hfit : Fit s := fun {y c} hc i hi => by
    obtain ⟨ha, rfl⟩ := Array.getElem?_eq_some_iff.mp hc
    have q := List.all_eq_true.mp ((Array.all_eq_true_iff_forall_mem.mp hF) _ (Array.getElem_mem ha)) i (List.mem_range.mpr hi)
    simpa [Array.getElem?_eq_getElem hi] using q
  obtain ⟨i0, ei0⟩ := is_v g1
  obtain rfl : w0 = (.int i0) := Option.some.inj ei0
  obtain ⟨i1, ei1⟩ := is_v g2
  obtain rfl : w1 = (.int i1) := Option.some.inj ei1
  obtain ⟨i2, ei2⟩ := is_v g3
  obtain rfl : w2 = (.int i2) := Option.some.inj ei2
  obtain ⟨n, o, h1, h2, h3, _, L, rfl, ⟨rfl, N, -⟩, hq⟩ := law0 (l := l) (Z := s) hw (h0 := s.heap) (n0 := s.heap.size) i0 i1 i2  (Nat.le_refl _) tables_1 p e ha hc hk s m _ below hf ((Spec.applies_iff_loose hf).mp happ).1 ⟨rfl, State.Warmed39.refl s, rfl⟩ trivial
  exact ⟨n, _, h1, h2, h3, hpost _ _ _ _ _ _ ⟨Cond.after_iff.mpr rfl, Cond.after_iff.mpr (eq_i res_at (Term.int_eval (1)) rfl), trivial⟩ ⟨hq.1, hq.2.1, (hq.2.2.sift fun y hy => Or.inr (N y hy)).mono (by decide) (by decide)⟩⟩
theorem main_1_1 : Claimed_1_1 := comes_1 fun _ _ _ _ _ _ h hF => ⟨h.1, hF⟩
theorem main_1_2 : Claimed_1_2 := comes_1 fun _ _ _ _ _ _ h hF => ⟨h.2.1, hF⟩
end Jvm.Pilot.@@N@@
namespace Jvm.Pilot.@@N@@
open Jvm Jvm.ClassFile Sem Op Lib Jvm.Free Jvm.Stand Jvm.Pilot.@@N@@.Jvm.D
/-! MADE BY PROGRAM (witnessworld.py) out of the Statement's table words and the real class files: 9 classes; the members and pool entries that the words name. The judged class is class 1, her method 1. -/
namespace start1
open Jvm.ClassFile
def u (s : String) : CpInfo := .utf8 (stringToUtf16 s)
/-- a pool by its gaps: so many unusable entries, then the entry; so many at the end -/
def gap : Nat → List CpInfo → List CpInfo
  | 0, r => r
  | n + 1, r => .unusable :: gap n r
def poolList (es : List (Nat × CpInfo)) (last : Nat) : List CpInfo := es.foldr (fun e r => gap e.1 (e.2 :: r)) (gap last [])
def pool (es : List (Nat × CpInfo)) (last : Nat) : Array CpInfo := ⟨poolList es last⟩
def fileOf (pool : Array CpInfo) (this : Nat) (attrs : Array Attribute := #[]) (ms : Array MethodInfo := #[]) (fl : Nat := 33) (sup : Nat := 0) (ifs : Array Nat := #[]) (fds : Array FieldInfo := #[]) : ClassFile where
  minorVersion := 0
  majorVersion := 65
  constantPool := pool
  accessFlags := fl
  thisClass := this
  superClass := sup
  interfaces := ifs
  fields := fds
  methods := ms
  attributes := attrs
def plain (name : String) (sup : Option ClassId) : Class where
  name := name
  kind := .ordinary
  loader := none
  accessFlags := 33
  super := sup
  interfaces := #[]
  cf := none
  fields := #[]
  methods := #[]
  instanceTypes := #[]
  staticTypes := #[]
  resolved := #[]
  callSites := []
  init := .initialized
  statics := none
  mirror := none

def pool0 : Array CpInfo := pool [(5, u "<init>"), (0, u "()V"), (1, .class_ 10), (1, u "java/lang/Object"), (85, u "clone"), (0, u "()Ljava/lang/Object;")] 26

def k0c0 : Code := { maxStack := 0, maxLocals := 1, code := object_method_1_code, exceptionTable := #[], attributes := #[] }
def k0m0 : Method := { name := "<init>", desc := "()V", sig := { parameters := [], returnType := none }, accessFlags := 1, code := some k0c0 }
def k0m1 : Method := { name := "clone", desc := "()Ljava/lang/Object;", sig := { parameters := [], returnType := some (.object "java/lang/Object") }, accessFlags := 260, code := none }
/-- java/lang/Object -/
def k0 : Class := { plain "java/lang/Object" none with
  accessFlags := 33
  interfaces := #[]
  cf := some (fileOf pool0 8 #[] #[{ accessFlags := 1, nameIndex := 5, descriptorIndex := 6, attributes := #[] }, { accessFlags := 260, nameIndex := 96, descriptorIndex := 97, attributes := #[] }] 33 0 #[] #[])
  fields := #[]
  methods := #[k0m0, k0m1]
  instanceTypes := #[]
  staticTypes := #[]
  resolved := Array.replicate 124 none
  statics := none }

def pool1 : Array CpInfo := pool [(2, .class_ 4), (1, u "java/lang/Object"), (0, u "<init>"), (0, u "()V"), (0, .integer 2147483647), (0, .integer 1073741823), (0, .class_ 10), (0, u "com/example/rhine/rhine/retrieval/JudgedRanking"), (0, .methodref 9 12), (0, .nameAndType 5 13), (0, u "([ZI)V"), (0, .methodref 9 15), (0, .nameAndType 16 17), (0, u "averagePrecision"), (0, u "()D"), (0, .double 4678677062884524032), (1, .long 1024), (1, .class_ 23), (0, u "com/example/rhine/rhine/retrieval/JudgedRankingAveragePrecisionPinLaw"), (2, u "law"), (0, u "(III)Z")] 5

def k1m0 : Method := { name := "<init>", desc := "()V", sig := { parameters := [], returnType := none }, accessFlags := 1, code := none }
def k1c1 : Code := { maxStack := 4, maxLocals := 18, code := code, exceptionTable := #[], attributes := #[] }
def k1m1 : Method := { name := "law", desc := "(III)Z", sig := { parameters := [.int, .int, .int], returnType := some .boolean }, accessFlags := 9, code := some k1c1 }
/-- com/example/rhine/rhine/retrieval/JudgedRankingAveragePrecisionPinLaw -/
def k1 : Class := { plain "com/example/rhine/rhine/retrieval/JudgedRankingAveragePrecisionPinLaw" (some 0) with
  accessFlags := 49
  interfaces := #[]
  cf := some (fileOf pool1 22 #[] #[{ accessFlags := 1, nameIndex := 5, descriptorIndex := 6, attributes := #[] }, { accessFlags := 9, nameIndex := 26, descriptorIndex := 27, attributes := #[] }] 49 2 #[] #[])
  fields := #[]
  methods := #[k1m0, k1m1]
  instanceTypes := #[]
  staticTypes := #[]
  resolved := Array.replicate 33 none
  statics := none }

def pool2 : Array CpInfo := pool [(1, .methodref 2 3), (0, .class_ 4), (0, .nameAndType 5 6), (0, u "java/lang/Object"), (0, u "<init>"), (0, u "()V"), (0, .methodref 8 9), (0, .class_ 10), (0, .nameAndType 11 12), (0, u "[Z"), (0, u "clone"), (0, u "()Ljava/lang/Object;"), (0, .fieldref 14 15), (0, .class_ 16), (0, .nameAndType 17 10), (0, u "com/example/rhine/rhine/retrieval/JudgedRanking"), (0, u "relevantAtRank"), (0, .fieldref 14 19), (0, .nameAndType 20 21), (0, u "relevantCount"), (0, u "I"), (10, u "([ZI)V"), (9, u "averagePrecision"), (0, u "()D")] 3

def k2c0 : Code := { maxStack := 2, maxLocals := 3, code := prog_37_method_1_code, exceptionTable := #[], attributes := #[] }
def k2m0 : Method := { name := "<init>", desc := "([ZI)V", sig := { parameters := [(.array .boolean), .int], returnType := none }, accessFlags := 0, code := some k2c0 }
def k2c1 : Code := { maxStack := 6, maxLocals := 5, code := prog_37_method_7_code, exceptionTable := #[], attributes := #[] }
def k2m1 : Method := { name := "averagePrecision", desc := "()D", sig := { parameters := [], returnType := some .double }, accessFlags := 0, code := some k2c1 }
/-- com/example/rhine/rhine/retrieval/JudgedRanking -/
def k2 : Class := { plain "com/example/rhine/rhine/retrieval/JudgedRanking" (some 0) with
  accessFlags := 48
  interfaces := #[]
  cf := some (fileOf pool2 14 #[] #[{ accessFlags := 0, nameIndex := 5, descriptorIndex := 32, attributes := #[] }, { accessFlags := 0, nameIndex := 42, descriptorIndex := 43, attributes := #[] }] 48 2 #[] #[{ accessFlags := 18, nameIndex := 17, descriptorIndex := 10, attributes := #[] }, { accessFlags := 18, nameIndex := 20, descriptorIndex := 21, attributes := #[] }])
  fields := #[{ name := "relevantAtRank", type := (.array .boolean), accessFlags := 18, slot := 0, constantValue := 0 }, { name := "relevantCount", type := .int, accessFlags := 18, slot := 1, constantValue := 0 }]
  methods := #[k2m0, k2m1]
  instanceTypes := #[(.array .boolean), .int]
  staticTypes := #[]
  resolved := Array.replicate 47 none
  statics := none }

def pool3 : Array CpInfo := pool [(1, .class_ 2), (0, u "java/lang/Cloneable"), (0, .class_ 4), (0, u "java/lang/Object")] 2

/-- java/lang/Cloneable -/
def k3 : Class := { plain "java/lang/Cloneable" (some 0) with
  accessFlags := 1537
  interfaces := #[]
  cf := some (fileOf pool3 1 #[] #[] 1537 3 #[] #[])
  fields := #[]
  methods := #[]
  instanceTypes := #[]
  staticTypes := #[]
  resolved := Array.replicate 7 none
  statics := none }

def pool4 : Array CpInfo := pool [(1, u "java/io/Serializable"), (0, .class_ 1), (0, u "java/lang/Object"), (0, .class_ 3)] 3

/-- java/io/Serializable -/
def k4 : Class := { plain "java/io/Serializable" (some 0) with
  accessFlags := 1537
  interfaces := #[]
  cf := some (fileOf pool4 2 #[] #[] 1537 4 #[] #[])
  fields := #[]
  methods := #[]
  instanceTypes := #[]
  staticTypes := #[]
  resolved := Array.replicate 8 none
  statics := none }

/-- the primitive boolean -/
def k5 : Class := { plain "boolean" none with kind := .primitive 'Z', accessFlags := 0x411 }
/-- [Z -/
def k6 : Class := { plain "[Z" (some 0) with kind := .array 5 .boolean, interfaces := #[3, 4], accessFlags := 1041 }

/-- the primitive byte -/
def k7 : Class := { plain "byte" none with kind := .primitive 'B', accessFlags := 0x411 }
/-- [B -/
def k8 : Class := { plain "[B" (some 0) with kind := .array 7 .byte, interfaces := #[3, 4], accessFlags := 1041 }

def heap : Heap := #[]
def classes : Array Class := #[k0, k1, k2, k3, k4, k5, k6, k7, k8]
def interned : List (Array UInt16 × Addr) := []
def slotsUsed : Nat := 0
def theMethod : MethodId := ⟨1, 1⟩
def args0 : Array Value := #[.int 5, .int 5, .int 2]
def aboutOver (below : List Frame) : State where
  vm := { classes := classes, interned := interned.toArray }
  heap := heap
  slotsUsed := slotsUsed
  threads := #[{ frames := .invoking theMethod args0 :: below }]
def below0 : List Frame := [.native { method := ⟨0, 0⟩, args := #[] }]
def about1 : State := aboutOver below0
def p0 : Program := .bare "" "" ""
def e0 : Env := launch0.env 0 0 0
theorem w_frames : about1.frames = Frame.invoking theMethod args0 :: below0 := rfl
set_option maxRecDepth 65536 in
theorem w_args : argsFit about1.vm theMethod args0 = true := by decide +kernel
set_option maxRecDepth 65536 in
theorem w_heap : heapFits about1 = true := by decide +kernel
set_option maxRecDepth 65536 in
theorem w_runnable : about1.curStatus? = some .runnable := by decide +kernel
set_option maxRecDepth 65536 in
theorem w_alone : about1.alone = true := by decide +kernel
set_option maxRecDepth 65536 in
theorem w_named : about1.methodNamed? x = some theMethod := by decide +kernel
set_option maxRecDepth 65536 in
theorem w_hears : about1.hears theMethod below0 = true := by decide +kernel
set_option maxRecDepth 65536 in
theorem w_ripe : about1.ripe theMethod args0 below0 = true := by decide +kernel
theorem w_running : about1.status = .running := rfl
set_option maxRecDepth 65536 in
theorem w_room : about1.hasRoom e0.platform room_1 = true :=
  launch0.hasRoom_least _ room_1 (by decide +kernel) (by decide +kernel) (by decide +kernel) (by decide +kernel) (by decide +kernel) (by decide +kernel)
theorem allAtoms_all (ts : List Jvm.Cond) (a : Array Jvm.Value) (st : Jvm.State) : (allAtoms ts).before a st = ts.all (fun c => c.before a st) := by
  induction ts with
  | nil => rfl
  | cons c t ih =>
    show (Jvm.Cond.and c (allAtoms t)).before a st = _
    rw [Jvm.Cond.before_and, ih, List.all_cons]
def words1 : List Jvm.Cond := Jvm.Cond.code x code maxLocals ret :: tables_1
/-- a 'code' word, met by the world's own term for the bytes: nothing is compared byte by byte -/
theorem code_word {y : MethodName} {bytes : ByteArray} {mx : Nat} {rt : Option FieldType} {a : Array Value} {s : State} {m : MethodId} {meth : Method} {c : Code} (h1 : s.methodNamed? y = some m) (h2 : s.vm.method? m = some meth) (h3 : meth.code = some c) (h4 : c.code = bytes)
    (h5 : (c.maxLocals == mx && c.exceptionTable.isEmpty && decide (c.maxStack ≤ mostOperands) && decide (meth.sig.returnType = rt) && !meth.locks && decide (parseMethodDescriptor y.desc = some meth.sig)) = true) : (Jvm.Cond.code y bytes mx rt).before a s = true := by
  simp only [Bool.and_eq_true, beq_iff_eq, Bool.not_eq_true', decide_eq_true_eq] at h5
  obtain ⟨⟨⟨⟨⟨g1, g2⟩, g3⟩, g4⟩, g5⟩, g6⟩ := h5
  simp [Cond.before, Cond.holds, Cond.value, h1, h2, h3, h4, g1, g2, g3, g4, g5, g6]
def isCode : Jvm.Cond → Bool
  | .code _ _ _ _ => true
  | _ => false
theorem all_split {L : List Jvm.Cond} {P : Jvm.Cond → Bool} (h1 : L.all (fun c => isCode c || P c) = true) (h2 : ∀ c ∈ L.filter isCode, P c = true) : L.all P = true := by
  refine List.all_eq_true.mpr fun c hc => ?_
  have h := List.all_eq_true.mp h1 c hc
  rcases Bool.eq_false_or_eq_true (isCode c) with hi | hi
  · exact h2 c (List.mem_filter.mpr ⟨hc, hi⟩)
  · simpa [hi] using h
set_option maxRecDepth 65536 in
theorem w_c0 : (Jvm.Cond.code x code maxLocals ret).before args0 about1 = true := code_word (m := ⟨1, 1⟩) (meth := k1m1) (c := k1c1) (by decide +kernel) rfl rfl rfl (by decide +kernel)
set_option maxRecDepth 65536 in
theorem w_c1 : (Jvm.Cond.code ({ cls := "com/example/rhine/rhine/retrieval/JudgedRanking", name := "<init>", desc := "([ZI)V" } : Jvm.MethodName) prog_37_method_1_code (3 : Nat) (Option.none : Option Jvm.ClassFile.FieldType)).before args0 about1 = true := code_word (m := ⟨2, 0⟩) (meth := k2m0) (c := k2c0) (by decide +kernel) rfl rfl rfl (by decide +kernel)
set_option maxRecDepth 65536 in
theorem w_c2 : (Jvm.Cond.code ({ cls := "java/lang/Object", name := "<init>", desc := "()V" } : Jvm.MethodName) object_method_1_code (1 : Nat) (Option.none : Option Jvm.ClassFile.FieldType)).before args0 about1 = true := code_word (m := ⟨0, 0⟩) (meth := k0m0) (c := k0c0) (by decide +kernel) rfl rfl rfl (by decide +kernel)
set_option maxRecDepth 65536 in
theorem w_c3 : (Jvm.Cond.code ({ cls := "com/example/rhine/rhine/retrieval/JudgedRanking", name := "averagePrecision", desc := "()D" } : Jvm.MethodName) prog_37_method_7_code (5 : Nat) (Option.some Jvm.ClassFile.FieldType.double)).before args0 about1 = true := code_word (m := ⟨2, 1⟩) (meth := k2m1) (c := k2c1) (by decide +kernel) rfl rfl rfl (by decide +kernel)
def codes1 : List Jvm.Cond := [Jvm.Cond.code x code maxLocals ret, Jvm.Cond.code ({ cls := "com/example/rhine/rhine/retrieval/JudgedRanking", name := "<init>", desc := "([ZI)V" } : Jvm.MethodName) prog_37_method_1_code (3 : Nat) (Option.none : Option Jvm.ClassFile.FieldType), Jvm.Cond.code ({ cls := "java/lang/Object", name := "<init>", desc := "()V" } : Jvm.MethodName) object_method_1_code (1 : Nat) (Option.none : Option Jvm.ClassFile.FieldType), Jvm.Cond.code ({ cls := "com/example/rhine/rhine/retrieval/JudgedRanking", name := "averagePrecision", desc := "()D" } : Jvm.MethodName) prog_37_method_7_code (5 : Nat) (Option.some Jvm.ClassFile.FieldType.double)]
set_option maxRecDepth 65536 in
theorem codes_eq : words1.filter isCode = codes1 := rfl
theorem w_codes : ∀ c ∈ words1.filter isCode, c.before args0 about1 = true := by
  rw [codes_eq]
  intro c hc
  simp only [codes1, List.mem_cons, List.not_mem_nil, or_false] at hc
  rcases hc with rfl | rfl | rfl | rfl
  · exact w_c0
  · exact w_c1
  · exact w_c2
  · exact w_c3
set_option maxRecDepth 65536 in
theorem w_t1 : (words1.take 24).all (fun c => isCode c || c.before args0 about1) = true := by decide +kernel
set_option maxRecDepth 65536 in
theorem w_t2 : (words1.drop 24).all (fun c => isCode c || c.before args0 about1) = true := by decide +kernel
theorem w_tables : (allAtoms (Jvm.Cond.code x code maxLocals ret :: tables_1)).before args0 about1 = true := by
  rw [allAtoms_all]
  show words1.all (fun c => c.before args0 about1) = true
  refine all_split ?_ w_codes
  rw [← List.take_append_drop 24 words1, List.all_append, w_t1, w_t2]
  rfl
set_option maxRecDepth 65536 in
theorem w_case : (Jvm.Cond.and given_1 narrow_1).before args0 about1 = true := by decide +kernel
theorem w_applies : (headSpec (Jvm.Cond.code x code maxLocals ret :: tables_1) room_1).applies x e0.platform about1 = true :=
  (Spec.applies_iff w_frames).mpr ⟨w_running, w_runnable, w_alone, w_named, w_hears, w_ripe, w_room, w_tables⟩
theorem atStart : AtStart classFile x code maxLocals ret World_1 tables_1 room_1 Calls_1 rest_1 Pre_1 launch0 p0 e0 about1 theMethod args0 below0 :=
  ⟨lists_1, trivial, launch0.admits_env _ _ _, launch0.least_env, fairChoices_fair.cas, fairChoices_fair.clock, w_frames, w_args, w_heap, w_applies, trivial, trivial, w_case⟩
end start1
theorem witness_1 : WitnessClaimed_1 := ⟨start1.p0, start1.e0, start1.about1, start1.theMethod, start1.args0, start1.below0, start1.atStart⟩
end Jvm.Pilot.@@N@@
