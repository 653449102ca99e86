import JvmDerived
import JvmDerived.Pilot.@@N@@Statement
import JvmDerived.Pilot.@@N@@Code
set_option linter.unusedVariables false
set_option linter.unusedSimpArgs false
namespace Jvm.Pilot.@@N@@
open Jvm Jvm.ClassFile Sem Op Lib Jvm.Free Jvm.Stand Jvm.LawKit Jvm.RoadKit Bundle Jvm.Pilot.@@N@@.Jvm.D
/-! ### own kit: a walk in continuation style: Go .. h k n pc Ls st: from heap h, with k cells and n slots made, at pc with locals Ls and stack st, the run comes to its end as F says -/
abbrev Wk : Type := Program × Env × State × MethodId × Array Value × List Frame × Method × Code × Nat
abbrev Wk.p (w : Wk) : Program := w.1
abbrev Wk.e (w : Wk) : Env := w.2.1
abbrev Wk.s (w : Wk) : State := w.2.2.1
abbrev Wk.m (w : Wk) : MethodId := w.2.2.2.1
abbrev Wk.as (w : Wk) : Array Value := w.2.2.2.2.1
abbrev Wk.below (w : Wk) : List Frame := w.2.2.2.2.2.1
abbrev Wk.meth (w : Wk) : Method := w.2.2.2.2.2.2.1
abbrev Wk.c (w : Wk) : Code := w.2.2.2.2.2.2.2.1
abbrev Wk.kk (w : Wk) : Nat := w.2.2.2.2.2.2.2.2
/-- what may be said at the end, of a run that leaves with v -/
def Lv (w : Wk) (R : Room) (n0 : Nat) (Q : Option Value → Heap → Prop) (Y : State → Outcome → Prop) : Prop :=
  ∀ (T : State) (fs : List Frame) (locs : List Loc) (k n : Nat) (v : Option Value), w.s.WarmedH (T.setFrames fs).vm → w.s.sameButNew ({ T.setFrames fs with vm := w.s.vm } : State) locs k n → Fr n0 locs → w.kk ≤ T.heap.size → k ≤ R.cells → n ≤ R.slots → Q v T.heap → Y (T.setFrames fs) (.returned v)
def Nar (w : Wk) (R : Room) (n0 : Nat) (Q : Option Value → Heap → Prop) : State → Outcome → Prop := fun t o => ∃ v L, o = .returned v ∧ (Q v t.heap ∧ Fr n0 L ∧ w.kk ≤ t.heap.size) ∧ FrameEnd w.s o t L R.cells R.slots
theorem Lv.nar (w : Wk) (R : Room) (n0 : Nat) (Q : Option Value → Heap → Prop) : Lv w R n0 Q (Nar w R n0 Q) := fun T fs locs k n v hW hs N hk hc hn hQ => ⟨v, locs, rfl, ⟨hQ, N, hk⟩, ⟨v, rfl⟩, hW, hs.mono hc hn⟩
/-- what stays the same through a body's walk -/
def Cx (w : Wk) (Z : State) (own : String) (bytes : ByteArray) (ml : Nat) (rt : Option FieldType) (nm : String) (R : Room) (n0 : Nat) (Q : Option Value → Heap → Prop) (Y : State → Outcome → Prop) : Prop :=
  w.p.tables.exec = Jvm.exec ∧ w.c.code = bytes ∧ w.c.maxLocals = ml ∧ w.s.vm.findClass own = some w.m.cls ∧ Z.Warmed39 w.s.vm ∧ w.meth.sig.returnType = rt ∧ w.meth.locks = false ∧ w.meth.name = nm ∧ Lv w R n0 Q Y
def Go (w : Wk) (l : Launch) (R : Room) (n0 : Nat) (Y : State → Outcome → Prop) (h : Heap) (k n pc : Nat) (Ls : Array Slot) (st : List Value) : Prop :=
  ∀ (T : State) (locs : List Loc), Stand w.p l w.e R w.s w.m w.as w.below w.meth w.c T locs k n → T.heap = h → n0 ≤ h.size ∧ w.kk ≤ h.size → Fr n0 locs →
    ∃ s₂ o, Steps w.p.tables w.e w.below (T.setTop (mkF w.m pc Ls st)) s₂ ∧ s₂.status = .running ∧ Ended s₂ w.below o ∧ Y s₂ o
def Met (l : Launch) (Z : State) (y : MethodName) (bytes : ByteArray) (ml : Nat) (rt : Option FieldType) (rm : Room) (n0 : Nat) (h0 : Heap) (as' : Array Value) (Q : Option Value → Heap → Prop) : Prop :=
  n0 ≤ h0.size → ∀ ws, MetFree l y (head1 (Jvm.Cond.code y bytes ml rt :: ws) rm) (fun a U => a = as' ∧ Z.Warmed39 U.vm ∧ U.heap = h0) (fun _ _ _ _ _ => True) (fun _ U o U' => ∃ v L, o = .returned v ∧ (Q v U'.heap ∧ Fr n0 L ∧ h0.size ≤ U'.heap.size) ∧ FrameEnd U o U' L rm.cells rm.slots)
section OwnKit
variable {w : Wk} {l : Launch} {R : Room} {Z : State} {a0 : Array Value} {own : String} {bytes : ByteArray} {ml : Nat} {rt : Option FieldType} {nm : String} {n0 : Nat} {Q : Option Value → Heap → Prop} {Y : State → Outcome → Prop} {h : Heap} {k n pc pc' : Nat} {Ls Ls' : Array Slot} {st rest : List Value}
theorem Cx.hx (C : Cx w Z own bytes ml rt nm R n0 Q Y) : w.p.tables.exec = Jvm.exec := C.1
theorem Cx.d (C : Cx w Z own bytes ml rt nm R n0 Q Y) {pc : Nat} {r : Except ClassFile.DecodeError (ClassFile.Instr × Nat)} (hd : decode bytes pc = r) : decode w.c.code pc = r := C.2.1 ▸ hd
theorem Cx.hml (C : Cx w Z own bytes ml rt nm R n0 Q Y) : w.c.maxLocals = ml := C.2.2.1
theorem Cx.hown (C : Cx w Z own bytes ml rt nm R n0 Q Y) : w.s.vm.findClass own = some w.m.cls := C.2.2.2.1
theorem Cx.hZ (C : Cx w Z own bytes ml rt nm R n0 Q Y) : Z.Warmed39 w.s.vm := C.2.2.2.2.1
theorem Cx.ret (C : Cx w Z own bytes ml rt nm R n0 Q Y) : w.meth.sig.returnType = rt := C.2.2.2.2.2.1
theorem Cx.locks (C : Cx w Z own bytes ml rt nm R n0 Q Y) : w.meth.locks = false := C.2.2.2.2.2.2.1
theorem Cx.name (C : Cx w Z own bytes ml rt nm R n0 Q Y) : w.meth.name = nm := C.2.2.2.2.2.2.2.1
theorem Cx.lv (C : Cx w Z own bytes ml rt nm R n0 Q Y) : Lv w R n0 Q Y := C.2.2.2.2.2.2.2.2
theorem Met.intro {y : MethodName} {rm : Room} {h0 : Heap} {as' : Array Value} (hp : plainFor y = true) (hef : ∀ m, entryFrame m as' ml = mkF m 0 Ls [])
    (H : ∀ (w : Wk) (Y : State → Outcome → Prop), Cx w Z y.cls bytes ml rt y.name rm n0 Q Y → Go w l rm n0 Y h0 0 0 0 Ls []) : Met l Z y bytes ml rt rm n0 h0 as' Q := by
  intro hn ws
  refine MetFree.of_bodySF hp hisR ?_
  intro p e s m args below meth c s₁ Bd hml0 hP hK
  obtain ⟨rfl, hZ, hh⟩ := hP
  have X0 : Stand p l e rm s m args below meth c s₁ [] 0 0 := Stand.of_body Bd
  have e0 : s₁.heap = h0 := by rw [← hh, Bd.state]; rfl
  obtain ⟨s₂, o, g1, g2, g3, g4⟩ := H (p, e, s, m, args, below, meth, c, h0.size) _ ⟨Bd.exec, Bd.bytes, hml0, findClass_of_methodNamed Bd.named, hZ, Bd.returns, BodyLoose.notSynchronized Bd, (name_of_methodNamed Bd.named Bd.method).1, Lv.nar _ _ _ _⟩ s₁ [] X0 e0 ⟨hn, Nat.le_refl _⟩ (Fr.nil n0)
  exact ⟨s₂, o, castTop (hef m) g1, g2, g3, g4⟩
theorem Go.plain {st' : List Value} (f : ∀ (T t : State), At T w.m w.c w.below → Steps w.p.tables w.e w.below (T.setTop (mkF w.m pc' Ls' st')) t → Steps w.p.tables w.e w.below (T.setTop (mkF w.m pc Ls st)) t) (G : Go w l R n0 Y h k n pc' Ls' st') : Go w l R n0 Y h k n pc Ls st := by
  intro T locs X hT hn N
  obtain ⟨s₂, o, h1, h2⟩ := G T locs X hT hn N
  exact ⟨s₂, o, f T s₂ X.here h1, h2⟩
theorem Go.stand {st' : List Value} (f : ∀ (T t : State) (locs : List Loc), Stand w.p l w.e R w.s w.m w.as w.below w.meth w.c T locs k n → T.heap = h → Steps w.p.tables w.e w.below (T.setTop (mkF w.m pc' Ls' st')) t → Steps w.p.tables w.e w.below (T.setTop (mkF w.m pc Ls st)) t) (G : Go w l R n0 Y h k n pc' Ls' st') : Go w l R n0 Y h k n pc Ls st := by
  intro T locs X hT hn N
  obtain ⟨s₂, o, h1, h2⟩ := G T locs X hT hn N
  exact ⟨s₂, o, f T s₂ locs X hT h1, h2⟩
theorem Go.size (G : n0 ≤ h.size → Go w l R n0 Y h k n pc Ls st) : Go w l R n0 Y h k n pc Ls st := fun T locs X hT hn N => G hn.1 T locs X hT hn N
theorem own_grow {kk : Nat} {h h' : Heap} (hn : n0 ≤ h.size ∧ kk ≤ h.size) (E : h.size ≤ h'.size) : n0 ≤ h'.size ∧ kk ≤ h'.size := ⟨Nat.le_trans hn.1 E, Nat.le_trans hn.2 E⟩
theorem g_iloadN (C : Cx w Z own bytes ml rt nm R n0 Q Y) {i : Fin 4} {v : Int32} (hd : decode bytes pc = .ok (.iload_n i, 1)) (hp : pc + 1 = pc') (hl : Ls[i.val]? = some (.val (.int v))) (G : Go w l R n0 Y h k n pc' Ls (.int v :: st)) : Go w l R n0 Y h k n pc Ls (st) := by
  subst hp; exact Go.plain (fun T t H K => XS.iloadN H C.hx rfl (C.d hd) hl K) G
theorem g_iload (C : Cx w Z own bytes ml rt nm R n0 Q Y) {i : Nat} {v : Int32} (hd : decode bytes pc = .ok (.iload i, 2)) (hp : pc + 2 = pc') (hl : Ls[i]? = some (.val (.int v))) (G : Go w l R n0 Y h k n pc' Ls (.int v :: st)) : Go w l R n0 Y h k n pc Ls (st) := by
  subst hp; exact Go.plain (fun T t H K => XS.iload H C.hx rfl (C.d hd) hl K) G
theorem g_lloadN (C : Cx w Z own bytes ml rt nm R n0 Q Y) {i : Fin 4} {v : Int64} (hd : decode bytes pc = .ok (.lload_n i, 1)) (hp : pc + 1 = pc') (hl : Ls[i.val]? = some (.val (.long v))) (G : Go w l R n0 Y h k n pc' Ls (.long v :: st)) : Go w l R n0 Y h k n pc Ls (st) := by
  subst hp; exact Go.plain (fun T t H K => XS.lloadN H C.hx rfl (C.d hd) hl K) G
theorem g_lload (C : Cx w Z own bytes ml rt nm R n0 Q Y) {i : Nat} {v : Int64} (hd : decode bytes pc = .ok (.lload i, 2)) (hp : pc + 2 = pc') (hl : Ls[i]? = some (.val (.long v))) (G : Go w l R n0 Y h k n pc' Ls (.long v :: st)) : Go w l R n0 Y h k n pc Ls (st) := by
  subst hp; exact Go.plain (fun T t H K => XS.lload H C.hx rfl (C.d hd) hl K) G
theorem g_aloadN (C : Cx w Z own bytes ml rt nm R n0 Q Y) {i : Fin 4} {v : Value} (hd : decode bytes pc = .ok (.aload_n i, 1)) (hp : pc + 1 = pc') (hl : Ls[i.val]? = some (.val v)) (hv : v.isRef = true) (G : Go w l R n0 Y h k n pc' Ls (v :: st)) : Go w l R n0 Y h k n pc Ls (st) := by
  subst hp; exact Go.plain (fun T t H K => XS.aloadN H C.hx rfl (C.d hd) hl hv K) G
theorem g_aload (C : Cx w Z own bytes ml rt nm R n0 Q Y) {i : Nat} {v : Value} (hd : decode bytes pc = .ok (.aload i, 2)) (hp : pc + 2 = pc') (hl : Ls[i]? = some (.val v)) (hv : v.isRef = true) (G : Go w l R n0 Y h k n pc' Ls (v :: st)) : Go w l R n0 Y h k n pc Ls (st) := by
  subst hp; exact Go.plain (fun T t H K => XS.aload H C.hx rfl (C.d hd) hl hv K) G
theorem g_istoreN (C : Cx w Z own bytes ml rt nm R n0 Q Y) {i : Fin 4} {x : Int32} (hd : decode bytes pc = .ok (.istore_n i, 1)) (hp : pc + 1 = pc') (hl : storeLocals Ls i.val (.int x) = some Ls') (G : Go w l R n0 Y h k n pc' Ls' rest) : Go w l R n0 Y h k n pc Ls (.int x :: rest) := by
  subst hp; exact Go.plain (fun T t H K => XS.istoreN H C.hx rfl (C.d hd) rfl hl K) G
theorem g_istore (C : Cx w Z own bytes ml rt nm R n0 Q Y) {i : Nat} {x : Int32} (hd : decode bytes pc = .ok (.istore i, 2)) (hp : pc + 2 = pc') (hl : storeLocals Ls i (.int x) = some Ls') (G : Go w l R n0 Y h k n pc' Ls' rest) : Go w l R n0 Y h k n pc Ls (.int x :: rest) := by
  subst hp; exact Go.plain (fun T t H K => XS.istore H C.hx rfl (C.d hd) rfl hl K) G
theorem g_lstoreN (C : Cx w Z own bytes ml rt nm R n0 Q Y) {i : Fin 4} {x : Int64} (hd : decode bytes pc = .ok (.lstore_n i, 1)) (hp : pc + 1 = pc') (hl : storeLocals Ls i.val (.long x) = some Ls') (G : Go w l R n0 Y h k n pc' Ls' rest) : Go w l R n0 Y h k n pc Ls (.long x :: rest) := by
  subst hp; exact Go.plain (fun T t H K => XS.lstoreN H C.hx rfl (C.d hd) rfl hl K) G
theorem g_lstore (C : Cx w Z own bytes ml rt nm R n0 Q Y) {i : Nat} {x : Int64} (hd : decode bytes pc = .ok (.lstore i, 2)) (hp : pc + 2 = pc') (hl : storeLocals Ls i (.long x) = some Ls') (G : Go w l R n0 Y h k n pc' Ls' rest) : Go w l R n0 Y h k n pc Ls (.long x :: rest) := by
  subst hp; exact Go.plain (fun T t H K => XS.lstore H C.hx rfl (C.d hd) rfl hl K) G
theorem g_astoreN (C : Cx w Z own bytes ml rt nm R n0 Q Y) {i : Fin 4} {x : Value} (hd : decode bytes pc = .ok (.astore_n i, 1)) (hp : pc + 1 = pc') (hv : x.isRef = true) (hl : storeLocals Ls i.val (x) = some Ls') (G : Go w l R n0 Y h k n pc' Ls' rest) : Go w l R n0 Y h k n pc Ls (x :: rest) := by
  subst hp; exact Go.plain (fun T t H K => XS.astoreN H C.hx rfl (C.d hd) rfl hv hl K) G
theorem g_astore (C : Cx w Z own bytes ml rt nm R n0 Q Y) {i : Nat} {x : Value} (hd : decode bytes pc = .ok (.astore i, 2)) (hp : pc + 2 = pc') (hv : x.isRef = true) (hl : storeLocals Ls i (x) = some Ls') (G : Go w l R n0 Y h k n pc' Ls' rest) : Go w l R n0 Y h k n pc Ls (x :: rest) := by
  subst hp; exact Go.plain (fun T t H K => XS.astore H C.hx rfl (C.d hd) rfl hv hl K) G
theorem g_iconst (C : Cx w Z own bytes ml rt nm R n0 Q Y) {i : Int} {z : Int32} (hd : decode bytes pc = .ok (.iconst i, 1)) (hp : pc + 1 = pc') (hz : Int32.ofInt i = z) (G : Go w l R n0 Y h k n pc' Ls (.int z :: st)) : Go w l R n0 Y h k n pc Ls st := by
  subst hp hz; exact Go.plain (fun T t H K => XS.iconst H C.hx rfl (C.d hd) K) G
theorem g_bipush (C : Cx w Z own bytes ml rt nm R n0 Q Y) {i : Int} {z : Int32} (hd : decode bytes pc = .ok (.bipush i, 2)) (hp : pc + 2 = pc') (hz : (Int8.ofInt i).toInt32 = z) (G : Go w l R n0 Y h k n pc' Ls (.int z :: st)) : Go w l R n0 Y h k n pc Ls st := by
  subst hp hz; exact Go.plain (fun T t H K => XS.bipush H C.hx rfl (C.d hd) K) G
theorem g_sipush (C : Cx w Z own bytes ml rt nm R n0 Q Y) {i : Int} {z : Int32} (hd : decode bytes pc = .ok (.sipush i, 3)) (hp : pc + 3 = pc') (hz : (Int16.ofInt i).toInt32 = z) (G : Go w l R n0 Y h k n pc' Ls (.int z :: st)) : Go w l R n0 Y h k n pc Ls st := by
  subst hp hz; exact Go.plain (fun T t H K => XS.sipush H C.hx rfl (C.d hd) K) G
theorem g_lconst (C : Cx w Z own bytes ml rt nm R n0 Q Y) {i : Fin 2} {z : Int64} (hd : decode bytes pc = .ok (.lconst i, 1)) (hp : pc + 1 = pc') (hz : Int64.ofNat i = z) (G : Go w l R n0 Y h k n pc' Ls (.long z :: st)) : Go w l R n0 Y h k n pc Ls st := by
  subst hp hz; exact Go.plain (fun T t H K => XS.lconst H C.hx rfl (C.d hd) K) G
theorem g_null (C : Cx w Z own bytes ml rt nm R n0 Q Y) (hd : decode bytes pc = .ok (.aconst_null, 1)) (hp : pc + 1 = pc') (G : Go w l R n0 Y h k n pc' Ls (.null :: st)) : Go w l R n0 Y h k n pc Ls (st) := by
  subst hp; exact Go.plain (fun T t H K => XS.aconstNull H C.hx rfl (C.d hd)  K) G
theorem g_iadd (C : Cx w Z own bytes ml rt nm R n0 Q Y) {x y : Int32} (hd : decode bytes pc = .ok (.iadd, 1)) (hp : pc + 1 = pc') (G : Go w l R n0 Y h k n pc' Ls (.int (x + y) :: rest)) : Go w l R n0 Y h k n pc Ls (.int y :: .int x :: rest) := by
  subst hp; exact Go.plain (fun T t H K => XS.iadd H C.hx rfl (C.d hd) rfl K) G
theorem g_isub (C : Cx w Z own bytes ml rt nm R n0 Q Y) {x y : Int32} (hd : decode bytes pc = .ok (.isub, 1)) (hp : pc + 1 = pc') (G : Go w l R n0 Y h k n pc' Ls (.int (x - y) :: rest)) : Go w l R n0 Y h k n pc Ls (.int y :: .int x :: rest) := by
  subst hp; exact Go.plain (fun T t H K => XS.isub H C.hx rfl (C.d hd) rfl K) G
theorem g_imul (C : Cx w Z own bytes ml rt nm R n0 Q Y) {x y : Int32} (hd : decode bytes pc = .ok (.imul, 1)) (hp : pc + 1 = pc') (G : Go w l R n0 Y h k n pc' Ls (.int (x * y) :: rest)) : Go w l R n0 Y h k n pc Ls (.int y :: .int x :: rest) := by
  subst hp; exact Go.plain (fun T t H K => XS.imul H C.hx rfl (C.d hd) rfl K) G
theorem g_iand (C : Cx w Z own bytes ml rt nm R n0 Q Y) {x y : Int32} (hd : decode bytes pc = .ok (.iand, 1)) (hp : pc + 1 = pc') (G : Go w l R n0 Y h k n pc' Ls (.int (x &&& y) :: rest)) : Go w l R n0 Y h k n pc Ls (.int y :: .int x :: rest) := by
  subst hp; exact Go.plain (fun T t H K => XS.iand H C.hx rfl (C.d hd) rfl K) G
theorem g_ior (C : Cx w Z own bytes ml rt nm R n0 Q Y) {x y : Int32} (hd : decode bytes pc = .ok (.ior, 1)) (hp : pc + 1 = pc') (G : Go w l R n0 Y h k n pc' Ls (.int (x ||| y) :: rest)) : Go w l R n0 Y h k n pc Ls (.int y :: .int x :: rest) := by
  subst hp; exact Go.plain (fun T t H K => XS.ior H C.hx rfl (C.d hd) rfl K) G
theorem g_ixor (C : Cx w Z own bytes ml rt nm R n0 Q Y) {x y : Int32} (hd : decode bytes pc = .ok (.ixor, 1)) (hp : pc + 1 = pc') (G : Go w l R n0 Y h k n pc' Ls (.int (x ^^^ y) :: rest)) : Go w l R n0 Y h k n pc Ls (.int y :: .int x :: rest) := by
  subst hp; exact Go.plain (fun T t H K => XS.ixor H C.hx rfl (C.d hd) rfl K) G
theorem g_ishl (C : Cx w Z own bytes ml rt nm R n0 Q Y) {x y : Int32} (hd : decode bytes pc = .ok (.ishl, 1)) (hp : pc + 1 = pc') (G : Go w l R n0 Y h k n pc' Ls (.int (x <<< (y &&& 31)) :: rest)) : Go w l R n0 Y h k n pc Ls (.int y :: .int x :: rest) := by
  subst hp; exact Go.plain (fun T t H K => XS.ishl H C.hx rfl (C.d hd) rfl K) G
theorem g_ishr (C : Cx w Z own bytes ml rt nm R n0 Q Y) {x y : Int32} (hd : decode bytes pc = .ok (.ishr, 1)) (hp : pc + 1 = pc') (G : Go w l R n0 Y h k n pc' Ls (.int (x >>> (y &&& 31)) :: rest)) : Go w l R n0 Y h k n pc Ls (.int y :: .int x :: rest) := by
  subst hp; exact Go.plain (fun T t H K => XS.ishr H C.hx rfl (C.d hd) rfl K) G
theorem g_iushr (C : Cx w Z own bytes ml rt nm R n0 Q Y) {x y : Int32} (hd : decode bytes pc = .ok (.iushr, 1)) (hp : pc + 1 = pc') (G : Go w l R n0 Y h k n pc' Ls (.int ((x.toUInt32 >>> (y &&& 31).toUInt32).toInt32) :: rest)) : Go w l R n0 Y h k n pc Ls (.int y :: .int x :: rest) := by
  subst hp; exact Go.plain (fun T t H K => XS.iushr H C.hx rfl (C.d hd) rfl K) G
theorem g_ladd (C : Cx w Z own bytes ml rt nm R n0 Q Y) {x y : Int64} (hd : decode bytes pc = .ok (.ladd, 1)) (hp : pc + 1 = pc') (G : Go w l R n0 Y h k n pc' Ls (.long (x + y) :: rest)) : Go w l R n0 Y h k n pc Ls (.long y :: .long x :: rest) := by
  subst hp; exact Go.plain (fun T t H K => XS.ladd H C.hx rfl (C.d hd) rfl K) G
theorem g_lsub (C : Cx w Z own bytes ml rt nm R n0 Q Y) {x y : Int64} (hd : decode bytes pc = .ok (.lsub, 1)) (hp : pc + 1 = pc') (G : Go w l R n0 Y h k n pc' Ls (.long (x - y) :: rest)) : Go w l R n0 Y h k n pc Ls (.long y :: .long x :: rest) := by
  subst hp; exact Go.plain (fun T t H K => XS.lsub H C.hx rfl (C.d hd) rfl K) G
theorem g_lmul (C : Cx w Z own bytes ml rt nm R n0 Q Y) {x y : Int64} (hd : decode bytes pc = .ok (.lmul, 1)) (hp : pc + 1 = pc') (G : Go w l R n0 Y h k n pc' Ls (.long (x * y) :: rest)) : Go w l R n0 Y h k n pc Ls (.long y :: .long x :: rest) := by
  subst hp; exact Go.plain (fun T t H K => XS.lmul H C.hx rfl (C.d hd) rfl K) G
theorem g_land (C : Cx w Z own bytes ml rt nm R n0 Q Y) {x y : Int64} (hd : decode bytes pc = .ok (.land, 1)) (hp : pc + 1 = pc') (G : Go w l R n0 Y h k n pc' Ls (.long (x &&& y) :: rest)) : Go w l R n0 Y h k n pc Ls (.long y :: .long x :: rest) := by
  subst hp; exact Go.plain (fun T t H K => XS.land H C.hx rfl (C.d hd) rfl K) G
theorem g_lor (C : Cx w Z own bytes ml rt nm R n0 Q Y) {x y : Int64} (hd : decode bytes pc = .ok (.lor, 1)) (hp : pc + 1 = pc') (G : Go w l R n0 Y h k n pc' Ls (.long (x ||| y) :: rest)) : Go w l R n0 Y h k n pc Ls (.long y :: .long x :: rest) := by
  subst hp; exact Go.plain (fun T t H K => XS.lor H C.hx rfl (C.d hd) rfl K) G
theorem g_lxor (C : Cx w Z own bytes ml rt nm R n0 Q Y) {x y : Int64} (hd : decode bytes pc = .ok (.lxor, 1)) (hp : pc + 1 = pc') (G : Go w l R n0 Y h k n pc' Ls (.long (x ^^^ y) :: rest)) : Go w l R n0 Y h k n pc Ls (.long y :: .long x :: rest) := by
  subst hp; exact Go.plain (fun T t H K => XS.lxor H C.hx rfl (C.d hd) rfl K) G
theorem g_lshl (C : Cx w Z own bytes ml rt nm R n0 Q Y) {x : Int64} {y : Int32} (hd : decode bytes pc = .ok (.lshl, 1)) (hp : pc + 1 = pc') (G : Go w l R n0 Y h k n pc' Ls (.long (x <<< (y &&& 0x3f).toInt64) :: rest)) : Go w l R n0 Y h k n pc Ls (.int y :: .long x :: rest) := by
  subst hp; exact Go.plain (fun T t H K => XS.lshl H C.hx rfl (C.d hd) rfl K) G
theorem g_lshr (C : Cx w Z own bytes ml rt nm R n0 Q Y) {x : Int64} {y : Int32} (hd : decode bytes pc = .ok (.lshr, 1)) (hp : pc + 1 = pc') (G : Go w l R n0 Y h k n pc' Ls (.long (x >>> (y &&& 0x3f).toInt64) :: rest)) : Go w l R n0 Y h k n pc Ls (.int y :: .long x :: rest) := by
  subst hp; exact Go.plain (fun T t H K => XS.lshr H C.hx rfl (C.d hd) rfl K) G
theorem g_lushr (C : Cx w Z own bytes ml rt nm R n0 Q Y) {x : Int64} {y : Int32} (hd : decode bytes pc = .ok (.lushr, 1)) (hp : pc + 1 = pc') (G : Go w l R n0 Y h k n pc' Ls (.long ((x.toUInt64 >>> (y &&& 0x3f).toInt64.toUInt64).toInt64) :: rest)) : Go w l R n0 Y h k n pc Ls (.int y :: .long x :: rest) := by
  subst hp; exact Go.plain (fun T t H K => XS.lushr H C.hx rfl (C.d hd) rfl K) G
theorem g_idiv (C : Cx w Z own bytes ml rt nm R n0 Q Y) {x y : Int32} (hd : decode bytes pc = .ok (.idiv, 1)) (hp : pc + 1 = pc') (hy : y ≠ 0) (G : Go w l R n0 Y h k n pc' Ls (.int (x / y) :: rest)) : Go w l R n0 Y h k n pc Ls (.int y :: .int x :: rest) := by
  subst hp; exact Go.plain (fun T t H K => XS.idiv H C.hx rfl (C.d hd) rfl hy K) G
theorem g_irem (C : Cx w Z own bytes ml rt nm R n0 Q Y) {x y : Int32} (hd : decode bytes pc = .ok (.irem, 1)) (hp : pc + 1 = pc') (hy : y ≠ 0) (G : Go w l R n0 Y h k n pc' Ls (.int (x % y) :: rest)) : Go w l R n0 Y h k n pc Ls (.int y :: .int x :: rest) := by
  subst hp; exact Go.stand (fun T t locs X hT K => iremM X C.hx rfl (C.d hd) rfl hy K) G
theorem g_lcmp (C : Cx w Z own bytes ml rt nm R n0 Q Y) {x y : Int64} (hd : decode bytes pc = .ok (.lcmp, 1)) (hp : pc + 1 = pc') (G : Go w l R n0 Y h k n pc' Ls (.int (lcmpW x y) :: rest)) : Go w l R n0 Y h k n pc Ls (.long y :: .long x :: rest) := by
  subst hp; exact Go.plain (fun T t H K => XS.lcmp H C.hx rfl (C.d hd) rfl K) G
theorem g_ineg (C : Cx w Z own bytes ml rt nm R n0 Q Y) {v : Int32} (hd : decode bytes pc = .ok (.ineg, 1)) (hp : pc + 1 = pc') (G : Go w l R n0 Y h k n pc' Ls (.int (-v) :: rest)) : Go w l R n0 Y h k n pc Ls (.int v :: rest) := by
  subst hp; exact Go.plain (fun T t H K => XS.ineg H C.hx rfl (C.d hd) rfl K) G
theorem g_lneg (C : Cx w Z own bytes ml rt nm R n0 Q Y) {v : Int64} (hd : decode bytes pc = .ok (.lneg, 1)) (hp : pc + 1 = pc') (G : Go w l R n0 Y h k n pc' Ls (.long (-v) :: rest)) : Go w l R n0 Y h k n pc Ls (.long v :: rest) := by
  subst hp; exact Go.plain (fun T t H K => XS.lneg H C.hx rfl (C.d hd) rfl K) G
theorem g_i2l (C : Cx w Z own bytes ml rt nm R n0 Q Y) {v : Int32} (hd : decode bytes pc = .ok (.i2l, 1)) (hp : pc + 1 = pc') (G : Go w l R n0 Y h k n pc' Ls (.long (v.toInt64) :: rest)) : Go w l R n0 Y h k n pc Ls (.int v :: rest) := by
  subst hp; exact Go.plain (fun T t H K => XS.i2l H C.hx rfl (C.d hd) rfl K) G
theorem g_l2i (C : Cx w Z own bytes ml rt nm R n0 Q Y) {v : Int64} (hd : decode bytes pc = .ok (.l2i, 1)) (hp : pc + 1 = pc') (G : Go w l R n0 Y h k n pc' Ls (.int (v.toInt32) :: rest)) : Go w l R n0 Y h k n pc Ls (.long v :: rest) := by
  subst hp; exact Go.plain (fun T t H K => XS.l2i H C.hx rfl (C.d hd) rfl K) G
theorem g_i2b (C : Cx w Z own bytes ml rt nm R n0 Q Y) {v : Int32} (hd : decode bytes pc = .ok (.i2b, 1)) (hp : pc + 1 = pc') (G : Go w l R n0 Y h k n pc' Ls (.int (v.toInt8.toInt32) :: rest)) : Go w l R n0 Y h k n pc Ls (.int v :: rest) := by
  subst hp; exact Go.plain (fun T t H K => XS.i2b H C.hx rfl (C.d hd) rfl K) G
theorem g_i2s (C : Cx w Z own bytes ml rt nm R n0 Q Y) {v : Int32} (hd : decode bytes pc = .ok (.i2s, 1)) (hp : pc + 1 = pc') (G : Go w l R n0 Y h k n pc' Ls (.int (v.toInt16.toInt32) :: rest)) : Go w l R n0 Y h k n pc Ls (.int v :: rest) := by
  subst hp; exact Go.plain (fun T t H K => XS.i2s H C.hx rfl (C.d hd) rfl K) G
theorem g_i2c (C : Cx w Z own bytes ml rt nm R n0 Q Y) {v : Int32} (hd : decode bytes pc = .ok (.i2c, 1)) (hp : pc + 1 = pc') (G : Go w l R n0 Y h k n pc' Ls (.int (v.toUInt32.toUInt16.toUInt32.toInt32) :: rest)) : Go w l R n0 Y h k n pc Ls (.int v :: rest) := by
  subst hp; exact Go.plain (fun T t H K => XS.i2c H C.hx rfl (C.d hd) rfl K) G
theorem g_dup (C : Cx w Z own bytes ml rt nm R n0 Q Y) {x : Value} (hd : decode bytes pc = .ok (.dup, 1)) (hp : pc + 1 = pc') (hc : x.category = 1) (G : Go w l R n0 Y h k n pc' Ls (x :: x :: rest)) : Go w l R n0 Y h k n pc Ls (x :: rest) := by
  subst hp; exact Go.plain (fun T t H K => XS.dup H C.hx rfl (C.d hd) rfl hc K) G
theorem g_dupX1 (C : Cx w Z own bytes ml rt nm R n0 Q Y) {x y : Value} (hd : decode bytes pc = .ok (.dup_x1, 1)) (hp : pc + 1 = pc') (hc : x.category = 1) (hc2 : y.category = 1) (G : Go w l R n0 Y h k n pc' Ls (x :: y :: x :: rest)) : Go w l R n0 Y h k n pc Ls (x :: y :: rest) := by
  subst hp; exact Go.plain (fun T t H K => XS.dupX1 H C.hx rfl (C.d hd) rfl hc hc2 K) G
theorem g_pop (C : Cx w Z own bytes ml rt nm R n0 Q Y) {x : Value} (hd : decode bytes pc = .ok (.pop, 1)) (hp : pc + 1 = pc') (hc : x.category = 1) (G : Go w l R n0 Y h k n pc' Ls (rest)) : Go w l R n0 Y h k n pc Ls (x :: rest) := by
  subst hp; exact Go.plain (fun T t H K => XS.pop H C.hx rfl (C.d hd) rfl hc K) G
theorem g_iinc (C : Cx w Z own bytes ml rt nm R n0 Q Y) {i : Nat} {d : Int} {x : Int32} (hd : decode bytes pc = .ok (.iinc i d, 3)) (hp : pc + 3 = pc') (hl : Ls[i]? = some (.val (.int x))) {z : Int32} (hz : x + Int32.ofInt d = z) (hl' : storeLocals Ls i (.int z) = some Ls') (G : Go w l R n0 Y h k n pc' Ls' st) : Go w l R n0 Y h k n pc Ls st := by
  subst hp hz; exact Go.plain (fun T t H K => XS.iinc H C.hx rfl (C.d hd) hl hl' K) G
theorem g_goto (C : Cx w Z own bytes ml rt nm R n0 Q Y) {o : Int} (hd : decode bytes pc = .ok (.goto o, 3)) (ho : 0 ≤ (pc : Int) + o) (hp : ((pc : Int) + o).toNat = pc') (G : Go w l R n0 Y h k n pc' Ls st) : Go w l R n0 Y h k n pc Ls st :=
  Go.plain (fun T t H K => XS.goto H C.hx rfl (pc0 := pc) rfl (C.d hd) ho hp K) G
theorem g_icmp_lt (C : Cx w Z own bytes ml rt nm R n0 Q Y) {o : Int} {x y : Int32} {pcN : Nat} (hd : decode bytes pc = .ok (.if_icmp .lt o, 3)) (ho : 0 ≤ (pc : Int) + o) (hp : ((pc : Int) + o).toNat = pc') (hq : pc + 3 = pcN) (G : x < y → Go w l R n0 Y h k n pc' Ls rest) (G' : ¬ x < y → Go w l R n0 Y h k n pcN Ls rest) : Go w l R n0 Y h k n pc Ls (.int y :: .int x :: rest) := by
  subst hq
  by_cases q : x < y
  · exact Go.plain (fun T t H K => XS.icmpYes H C.hx rfl (pc0 := pc) rfl (C.d hd) rfl (tlt q).1 ho hp K) (G q)
  · exact Go.plain (fun T t H K => XS.icmpNo H C.hx rfl (C.d hd) rfl (flt q).1 K) (G' q)
theorem g_if_lt (C : Cx w Z own bytes ml rt nm R n0 Q Y) {o : Int} {x : Int32} {pcN : Nat} (hd : decode bytes pc = .ok (.ifCond .lt o, 3)) (ho : 0 ≤ (pc : Int) + o) (hp : ((pc : Int) + o).toNat = pc') (hq : pc + 3 = pcN) (G : x < 0 → Go w l R n0 Y h k n pc' Ls rest) (G' : ¬ x < 0 → Go w l R n0 Y h k n pcN Ls rest) : Go w l R n0 Y h k n pc Ls (.int x :: rest) := by
  subst hq
  by_cases q : x < 0
  · exact Go.plain (fun T t H K => XS.ifYes H C.hx rfl (pc0 := pc) rfl (C.d hd) rfl ((if0 _ _).trans (tlt q).1) ho hp K) (G q)
  · exact Go.plain (fun T t H K => XS.ifNo H C.hx rfl (C.d hd) rfl ((if0 _ _).trans (flt q).1) K) (G' q)
theorem g_icmp_ge (C : Cx w Z own bytes ml rt nm R n0 Q Y) {o : Int} {x y : Int32} {pcN : Nat} (hd : decode bytes pc = .ok (.if_icmp .ge o, 3)) (ho : 0 ≤ (pc : Int) + o) (hp : ((pc : Int) + o).toNat = pc') (hq : pc + 3 = pcN) (G : ¬ x < y → Go w l R n0 Y h k n pc' Ls rest) (G' : x < y → Go w l R n0 Y h k n pcN Ls rest) : Go w l R n0 Y h k n pc Ls (.int y :: .int x :: rest) := by
  subst hq
  by_cases q : x < y
  · exact Go.plain (fun T t H K => XS.icmpNo H C.hx rfl (C.d hd) rfl (tlt q).2.1 K) (G' q)
  · exact Go.plain (fun T t H K => XS.icmpYes H C.hx rfl (pc0 := pc) rfl (C.d hd) rfl (flt q).2.1 ho hp K) (G q)
theorem g_if_ge (C : Cx w Z own bytes ml rt nm R n0 Q Y) {o : Int} {x : Int32} {pcN : Nat} (hd : decode bytes pc = .ok (.ifCond .ge o, 3)) (ho : 0 ≤ (pc : Int) + o) (hp : ((pc : Int) + o).toNat = pc') (hq : pc + 3 = pcN) (G : ¬ x < 0 → Go w l R n0 Y h k n pc' Ls rest) (G' : x < 0 → Go w l R n0 Y h k n pcN Ls rest) : Go w l R n0 Y h k n pc Ls (.int x :: rest) := by
  subst hq
  by_cases q : x < 0
  · exact Go.plain (fun T t H K => XS.ifNo H C.hx rfl (C.d hd) rfl ((if0 _ _).trans (tlt q).2.1) K) (G' q)
  · exact Go.plain (fun T t H K => XS.ifYes H C.hx rfl (pc0 := pc) rfl (C.d hd) rfl ((if0 _ _).trans (flt q).2.1) ho hp K) (G q)
theorem g_icmp_gt (C : Cx w Z own bytes ml rt nm R n0 Q Y) {o : Int} {x y : Int32} {pcN : Nat} (hd : decode bytes pc = .ok (.if_icmp .gt o, 3)) (ho : 0 ≤ (pc : Int) + o) (hp : ((pc : Int) + o).toNat = pc') (hq : pc + 3 = pcN) (G : y < x → Go w l R n0 Y h k n pc' Ls rest) (G' : ¬ y < x → Go w l R n0 Y h k n pcN Ls rest) : Go w l R n0 Y h k n pc Ls (.int y :: .int x :: rest) := by
  subst hq
  by_cases q : y < x
  · exact Go.plain (fun T t H K => XS.icmpYes H C.hx rfl (pc0 := pc) rfl (C.d hd) rfl (tlt q).2.2.1 ho hp K) (G q)
  · exact Go.plain (fun T t H K => XS.icmpNo H C.hx rfl (C.d hd) rfl (flt q).2.2.1 K) (G' q)
theorem g_if_gt (C : Cx w Z own bytes ml rt nm R n0 Q Y) {o : Int} {x : Int32} {pcN : Nat} (hd : decode bytes pc = .ok (.ifCond .gt o, 3)) (ho : 0 ≤ (pc : Int) + o) (hp : ((pc : Int) + o).toNat = pc') (hq : pc + 3 = pcN) (G : 0 < x → Go w l R n0 Y h k n pc' Ls rest) (G' : ¬ 0 < x → Go w l R n0 Y h k n pcN Ls rest) : Go w l R n0 Y h k n pc Ls (.int x :: rest) := by
  subst hq
  by_cases q : 0 < x
  · exact Go.plain (fun T t H K => XS.ifYes H C.hx rfl (pc0 := pc) rfl (C.d hd) rfl ((if0 _ _).trans (tlt q).2.2.1) ho hp K) (G q)
  · exact Go.plain (fun T t H K => XS.ifNo H C.hx rfl (C.d hd) rfl ((if0 _ _).trans (flt q).2.2.1) K) (G' q)
theorem g_icmp_le (C : Cx w Z own bytes ml rt nm R n0 Q Y) {o : Int} {x y : Int32} {pcN : Nat} (hd : decode bytes pc = .ok (.if_icmp .le o, 3)) (ho : 0 ≤ (pc : Int) + o) (hp : ((pc : Int) + o).toNat = pc') (hq : pc + 3 = pcN) (G : ¬ y < x → Go w l R n0 Y h k n pc' Ls rest) (G' : y < x → Go w l R n0 Y h k n pcN Ls rest) : Go w l R n0 Y h k n pc Ls (.int y :: .int x :: rest) := by
  subst hq
  by_cases q : y < x
  · exact Go.plain (fun T t H K => XS.icmpNo H C.hx rfl (C.d hd) rfl (tlt q).2.2.2 K) (G' q)
  · exact Go.plain (fun T t H K => XS.icmpYes H C.hx rfl (pc0 := pc) rfl (C.d hd) rfl (flt q).2.2.2 ho hp K) (G q)
theorem g_if_le (C : Cx w Z own bytes ml rt nm R n0 Q Y) {o : Int} {x : Int32} {pcN : Nat} (hd : decode bytes pc = .ok (.ifCond .le o, 3)) (ho : 0 ≤ (pc : Int) + o) (hp : ((pc : Int) + o).toNat = pc') (hq : pc + 3 = pcN) (G : ¬ 0 < x → Go w l R n0 Y h k n pc' Ls rest) (G' : 0 < x → Go w l R n0 Y h k n pcN Ls rest) : Go w l R n0 Y h k n pc Ls (.int x :: rest) := by
  subst hq
  by_cases q : 0 < x
  · exact Go.plain (fun T t H K => XS.ifNo H C.hx rfl (C.d hd) rfl ((if0 _ _).trans (tlt q).2.2.2) K) (G' q)
  · exact Go.plain (fun T t H K => XS.ifYes H C.hx rfl (pc0 := pc) rfl (C.d hd) rfl ((if0 _ _).trans (flt q).2.2.2) ho hp K) (G q)
theorem g_icmp_eq (C : Cx w Z own bytes ml rt nm R n0 Q Y) {o : Int} {x y : Int32} {pcN : Nat} (hd : decode bytes pc = .ok (.if_icmp .eq o, 3)) (ho : 0 ≤ (pc : Int) + o) (hp : ((pc : Int) + o).toNat = pc') (hq : pc + 3 = pcN) (G : x = y → Go w l R n0 Y h k n pc' Ls rest) (G' : ¬ x = y → Go w l R n0 Y h k n pcN Ls rest) : Go w l R n0 Y h k n pc Ls (.int y :: .int x :: rest) := by
  subst hq
  by_cases q : x = y
  · exact Go.plain (fun T t H K => XS.icmpYes H C.hx rfl (pc0 := pc) rfl (C.d hd) rfl (teq q).1 ho hp K) (G q)
  · exact Go.plain (fun T t H K => XS.icmpNo H C.hx rfl (C.d hd) rfl (feq q).1 K) (G' q)
theorem g_if_eq (C : Cx w Z own bytes ml rt nm R n0 Q Y) {o : Int} {x : Int32} {pcN : Nat} (hd : decode bytes pc = .ok (.ifCond .eq o, 3)) (ho : 0 ≤ (pc : Int) + o) (hp : ((pc : Int) + o).toNat = pc') (hq : pc + 3 = pcN) (G : x = 0 → Go w l R n0 Y h k n pc' Ls rest) (G' : ¬ x = 0 → Go w l R n0 Y h k n pcN Ls rest) : Go w l R n0 Y h k n pc Ls (.int x :: rest) := by
  subst hq
  by_cases q : x = 0
  · exact Go.plain (fun T t H K => XS.ifYes H C.hx rfl (pc0 := pc) rfl (C.d hd) rfl ((if0 _ _).trans (teq q).1) ho hp K) (G q)
  · exact Go.plain (fun T t H K => XS.ifNo H C.hx rfl (C.d hd) rfl ((if0 _ _).trans (feq q).1) K) (G' q)
theorem g_icmp_ne (C : Cx w Z own bytes ml rt nm R n0 Q Y) {o : Int} {x y : Int32} {pcN : Nat} (hd : decode bytes pc = .ok (.if_icmp .ne o, 3)) (ho : 0 ≤ (pc : Int) + o) (hp : ((pc : Int) + o).toNat = pc') (hq : pc + 3 = pcN) (G : ¬ x = y → Go w l R n0 Y h k n pc' Ls rest) (G' : x = y → Go w l R n0 Y h k n pcN Ls rest) : Go w l R n0 Y h k n pc Ls (.int y :: .int x :: rest) := by
  subst hq
  by_cases q : x = y
  · exact Go.plain (fun T t H K => XS.icmpNo H C.hx rfl (C.d hd) rfl (teq q).2 K) (G' q)
  · exact Go.plain (fun T t H K => XS.icmpYes H C.hx rfl (pc0 := pc) rfl (C.d hd) rfl (feq q).2 ho hp K) (G q)
theorem g_if_ne (C : Cx w Z own bytes ml rt nm R n0 Q Y) {o : Int} {x : Int32} {pcN : Nat} (hd : decode bytes pc = .ok (.ifCond .ne o, 3)) (ho : 0 ≤ (pc : Int) + o) (hp : ((pc : Int) + o).toNat = pc') (hq : pc + 3 = pcN) (G : ¬ x = 0 → Go w l R n0 Y h k n pc' Ls rest) (G' : x = 0 → Go w l R n0 Y h k n pcN Ls rest) : Go w l R n0 Y h k n pc Ls (.int x :: rest) := by
  subst hq
  by_cases q : x = 0
  · exact Go.plain (fun T t H K => XS.ifNo H C.hx rfl (C.d hd) rfl ((if0 _ _).trans (teq q).2) K) (G' q)
  · exact Go.plain (fun T t H K => XS.ifYes H C.hx rfl (pc0 := pc) rfl (C.d hd) rfl ((if0 _ _).trans (feq q).2) ho hp K) (G q)
theorem g_ifnullY (C : Cx w Z own bytes ml rt nm R n0 Q Y) {o : Int} (hd : decode bytes pc = .ok (.ifnull o, 3)) (ho : 0 ≤ (pc : Int) + o) (hp : ((pc : Int) + o).toNat = pc') (G : Go w l R n0 Y h k n pc' Ls rest) : Go w l R n0 Y h k n pc Ls (.null :: rest) := Go.plain (fun T t H K => XS.ifnullYes H C.hx rfl (pc0 := pc) rfl (C.d hd) rfl ho hp K) G
theorem g_ifnullN (C : Cx w Z own bytes ml rt nm R n0 Q Y) {o : Int} {b : Addr} (hd : decode bytes pc = .ok (.ifnull o, 3)) (hp : pc + 3 = pc') (G : Go w l R n0 Y h k n pc' Ls rest) : Go w l R n0 Y h k n pc Ls (.ref b :: rest) := by subst hp; exact Go.plain (fun T t H K => XS.ifnullNo H C.hx rfl (C.d hd) rfl K) G
theorem g_ifnonnullY (C : Cx w Z own bytes ml rt nm R n0 Q Y) {o : Int} {b : Addr} (hd : decode bytes pc = .ok (.ifnonnull o, 3)) (ho : 0 ≤ (pc : Int) + o) (hp : ((pc : Int) + o).toNat = pc') (G : Go w l R n0 Y h k n pc' Ls rest) : Go w l R n0 Y h k n pc Ls (.ref b :: rest) := Go.plain (fun T t H K => XS.ifnonnullYes H C.hx rfl (pc0 := pc) rfl (C.d hd) rfl ho hp K) G
theorem g_ifnonnullN (C : Cx w Z own bytes ml rt nm R n0 Q Y) {o : Int} (hd : decode bytes pc = .ok (.ifnonnull o, 3)) (hp : pc + 3 = pc') (G : Go w l R n0 Y h k n pc' Ls rest) : Go w l R n0 Y h k n pc Ls (.null :: rest) := by subst hp; exact Go.plain (fun T t H K => XS.ifnonnullNo H C.hx rfl (C.d hd) rfl K) G
theorem g_acmp (C : Cx w Z own bytes ml rt nm R n0 Q Y) {cd : ACond} {o : Int} {x y : Value} (h1 : x.isRef = true) (h2 : y.isRef = true) (same : Bool) (hd : decode bytes pc = .ok (.if_acmp cd o, 3)) (ho : 0 ≤ (pc : Int) + o) (hs : decide (x = y) = same) (hp : pc' = if acV cd same = true then ((pc : Int) + o).toNat else pc + 3) (G : Go w l R n0 Y h k n pc' Ls rest) : Go w l R n0 Y h k n pc Ls (y :: x :: rest) :=
  Go.stand (fun T t locs X hT K => Jvm.RoadKit.acmp (g := mkF w.m pc Ls (y :: x :: rest)) X C.hx rfl h1 h2 (pc0 := pc) rfl (C.d hd) rfl hs ho hp K) G
theorem g_ldcI (C : Cx w Z own bytes ml rt nm R n0 Q Y) {i : Nat} {v : Int32} (w1 : (Jvm.Cond.constant own i v).before a0 Z = true) (hd : decode bytes pc = .ok (.ldc i, 2)) (hp : pc + 2 = pc') (G : Go w l R n0 Y h k n pc' Ls (.int v :: st)) : Go w l R n0 Y h k n pc Ls st := by
  subst hp; exact Go.stand (fun T t locs X hT K => X.ldcInt C.hx C.hown (mvT C.hZ w1) (g := mkF w.m pc Ls st) rfl (C.d hd) _ K) G
theorem g_ldc2J (C : Cx w Z own bytes ml rt nm R n0 Q Y) {i : Nat} {v : Int64} (w1 : (Jvm.Cond.constantLong own i v).before a0 Z = true) (hd : decode bytes pc = .ok (.ldc2_w i, 3)) (hp : pc + 3 = pc') (G : Go w l R n0 Y h k n pc' Ls (.long v :: st)) : Go w l R n0 Y h k n pc Ls st := by
  subst hp; exact Go.stand (fun T t locs X hT K => X.ldc2Long C.hx C.hown (mvT C.hZ w1) (g := mkF w.m pc Ls st) rfl (C.d hd) _ K) G
theorem Go.leave {v : Option Value} (L : Lv w R n0 Q Y) (hv : w.meth.sig.returnType = none → v = none) (hlk : w.meth.locks = false) (hQ : Q v h) (hc : k ≤ R.cells) (hs : n ≤ R.slots)
    (f : ∀ (T : State) (locs : List Loc) (fs : List Frame), Stand w.p l w.e R w.s w.m w.as w.below w.meth w.c T locs k n → (∀ (f : JFrame) (acts : List Action), f.method = w.m → f.locked = none → f.entered = [] → (doReturn w.e (T.setTop f) acts v).1 = T.setFrames fs) → Steps w.p.tables w.e w.below (T.setTop (mkF w.m pc Ls st)) (T.setFrames fs)) : Go w l R n0 Y h k n pc Ls st := by
  intro T locs X hT hn N
  obtain ⟨fs, hr, hrun, hended, hW, hsame⟩ := X.leave (v := v) hv hlk
  exact ⟨_, _, f T locs fs X hr, hrun, hended, L T fs locs k n v hW hsame N (by rw [hT]; exact hn.2) hc hs (by rw [hT]; exact hQ)⟩
theorem g_ret (C : Cx w Z own bytes ml rt nm R n0 Q Y) (hr : rt = none) (hd : decode bytes pc = .ok (.return_, 1)) (hQ : Q none h) (hc : k ≤ R.cells) (hs : n ≤ R.slots) : Go w l R n0 Y h k n pc Ls [] :=
  Go.leave C.lv (v := none) (fun _ => rfl) C.locks hQ hc hs (fun T locs fs X hl => X.returnOut C.hx (C.ret.trans hr) (C.d hd) hl)
theorem g_retI (C : Cx w Z own bytes ml rt nm R n0 Q Y) (hr : rt = some .int) (hd : decode bytes pc = .ok (.ireturn, 1)) {z : Int32} (hQ : Q (some (.int z)) h) (hc : k ≤ R.cells) (hs : n ≤ R.slots) : Go w l R n0 Y h k n pc Ls [.int z] :=
  Go.leave C.lv (v := some (.int z)) (fun q => by rw [C.ret, hr] at q; cases q) C.locks hQ hc hs (fun T locs fs X hl => X.ireturnOut C.hx (t := .int) (C.ret.trans hr) rfl (Or.inl rfl) (C.d hd) hl)
theorem g_retN (C : Cx w Z own bytes ml rt nm R n0 Q Y) {t : FieldType} (hr : rt = some t) (ht : t = .boolean ∨ t = .byte ∨ t = .char ∨ t = .short) (hd : decode bytes pc = .ok (.ireturn, 1)) {z : Int32} (hQ : Q (some (.int (nar t z))) h) (hc : k ≤ R.cells) (hs : n ≤ R.slots) : Go w l R n0 Y h k n pc Ls (.int z :: rest) :=
  Go.leave C.lv (v := some (.int (nar t z))) (fun q => by rw [C.ret, hr] at q; cases q) C.locks hQ hc hs (fun T locs fs X hl => retN X C.hx (C.ret.trans hr) ht (C.d hd) hl)
theorem g_retA (C : Cx w Z own bytes ml rt nm R n0 Q Y) {t : FieldType} {v : Value} (hv : v.isRef = true) (hr : rt = some t) (ht : t.isReference = true) (hd : decode bytes pc = .ok (.areturn, 1)) (hQ : Q (some v) h) (hc : k ≤ R.cells) (hs : n ≤ R.slots) : Go w l R n0 Y h k n pc Ls [v] :=
  Go.leave C.lv (v := some v) (fun q => by rw [C.ret, hr] at q; cases q) C.locks hQ hc hs (fun T locs fs X hl => X.areturnOut C.hx hv (C.ret.trans hr) ht (C.d hd) hl)
theorem g_retL (C : Cx w Z own bytes ml rt nm R n0 Q Y) (hr : rt = some .long) (hd : decode bytes pc = .ok (.lreturn, 1)) {z : Int64} (hQ : Q (some (.long z)) h) (hc : k ≤ R.cells) (hs : n ≤ R.slots) : Go w l R n0 Y h k n pc Ls (.long z :: rest) :=
  Go.leave C.lv (v := some (.long z)) (fun q => by rw [C.ret, hr] at q; cases q) C.locks hQ hc hs (fun T locs fs X hl => by
    have hx := C.hx
    have hd' := C.d hd
    have hr' := C.ret.trans hr
    jvm_step X.here [X.here.top, hx, hd', X.method', hr', narrow]
    first | (intro acts; rw [hl _ acts rfl rfl rfl]) | rw [hl _ _ rfl rfl rfl]
    exact Steps.refl _)
/-- an array by a function of its places -/
def Arf (Z : State) (h : Heap) (a : Addr) (ad : String) (ty : FieldType) (z : Int32) (f : Nat → Value) : Prop := Exa Z h a ad ∧ ∃ c : Cell, Arr Z h a c ty ∧ c.slots.size = z.toNatClampNeg ∧ ¬ z < 0 ∧ ∀ i, i < c.slots.size → c.slots[i]? = some (f i) ∧ fits ty (f i) = true
def upd (f : Nat → Value) (j : Nat) (v : Value) : Nat → Value := fun i => if i = j then v else f i
theorem upd_same (f : Nat → Value) (j : Nat) (v : Value) : upd f j v j = v := by simp [upd]
theorem upd_other {f : Nat → Value} {j i : Nat} {v : Value} (q : i ≠ j) : upd f j v i = f i := by simp [upd, q]
variable {a b : Addr} {ad : String} {ty : FieldType} {z : Int32} {f : Nat → Value} {h' : Heap}
theorem Arf.lt (F : Arf Z h a ad ty z f) : a < h.size := F.1.lt
theorem Arf.exa (F : Arf Z h a ad ty z f) : Exa Z h a ad := F.1
theorem Arf.ext (F : Arf Z h a ad ty z f) (E : Ext h h') : Arf Z h' a ad ty z f := by
  obtain ⟨e, c, A, r⟩ := F; exact ⟨e.ext E, c, A.ext E, r⟩
theorem Arf.other {sl : Nat} {v : Value} (F : Arf Z h b ad ty z f) (W : Wr h h' a sl v) (q : b ≠ a) : Arf Z h' b ad ty z f := by
  obtain ⟨e, c, A, r⟩ := F; exact ⟨e.wr W, c, A.other W q, r⟩
theorem Arf.keep {ws : List Addr} (F : Arf Z h a ad ty z f) (K : Keep h h' ws) (q : a ∉ ws) : Arf Z h' a ad ty z f := by
  obtain ⟨e, c, A, r⟩ := F; exact ⟨e.keep K, c, ⟨K.2.1 _ _ A.1 q, A.2⟩, r⟩
theorem Arf.nn (F : Arf Z h a ad ty z f) : ¬ z < 0 := by obtain ⟨-, c, -, -, r, -⟩ := F; exact r
theorem Arf.fits (F : Arf Z h a ad ty z f) {i : Nat} (q : i < z.toNatClampNeg) : fits ty (f i) = true := by
  obtain ⟨-, c, -, S, -, r⟩ := F; exact (r i (by rw [S]; exact q)).2
theorem Arf.congr {g : Nat → Value} (F : Arf Z h a ad ty z f) (q : ∀ i, i < z.toNatClampNeg → f i = g i) : Arf Z h a ad ty z g := by
  obtain ⟨e, c, A, S, N, r⟩ := F; exact ⟨e, c, A, S, N, fun i hi => by rw [← q i (S ▸ hi)]; exact r i hi⟩
theorem Arf.set {j : Int32} {v : Value} (F : Arf Z h a ad ty z f) (W : Wr h h' a j.toNatClampNeg v) (hv : Jvm.fits ty v = true) (hj : ¬ j < 0) : Arf Z h' a ad ty z (upd f j.toNatClampNeg v) := by
  obtain ⟨e, c, A, S, N, r⟩ := F
  refine ⟨e.wr W, _, A.same W, by rw [sz_set]; exact S, N, fun i hi => ?_⟩
  rw [sz_set] at hi
  by_cases q : i = j.toNatClampNeg
  · subst q; refine ⟨?_, by rw [upd_same]; exact hv⟩
    rw [upd_same]; simp [Cell.setSlot, hi]
  · rw [upd_other q]; refine ⟨?_, (r i hi).2⟩
    rw [← (r i hi).1]; exact Array.getElem?_setIfInBounds_ne (Ne.symm q)
theorem nat_lt {j z : Int32} (h1 : ¬ j < 0) (h2 : j < z) : j.toNatClampNeg < z.toNatClampNeg := by
  rw [Int32.lt_iff_toInt_lt] at h1 h2
  have : (0 : Int32).toInt = 0 := rfl
  simp only [Int32.toNatClampNeg]; omega
theorem Arf.arv (F : Arf Z h a ad ty z f) (d : Value) : ∃ kc, Arv Z h a kc ty z ((List.range z.toNatClampNeg).map f) d := by
  obtain ⟨e, c, A, S, N, r⟩ := F
  refine ⟨c.cls, c, A, rfl, S, N, fun i hi => ?_, fun i hi => ?_⟩
  · rw [(r i hi).1]; rw [S] at hi; simp [List.getD, hi]
  · have q := (r i hi).2; rw [S] at hi; simpa [List.getD, hi] using q
theorem Arf.of_arv {kc : ClassId} {vs : List Value} {d : Value} (e : Exa Z h a ad) (V : Arv Z h a kc ty z vs d) : Arf Z h a ad ty z (fun i => vs.getD i d) := by
  obtain ⟨c, A, -, S, N, H, G⟩ := V
  exact ⟨e, c, A, S, N, fun i hi => ⟨H i hi, G i hi⟩⟩
theorem g_new (C : Cx w Z own bytes ml rt nm R n0 Q Y) {i : Nat} {cl : String} {m : Nat} (w1 : (Jvm.Cond.classLink own i cl).before a0 Z = true) (w2 : (Jvm.Cond.instantiable cl m).before a0 Z = true) (w3 : (Jvm.Cond.initialized cl).before a0 Z = true) (hd : decode bytes pc = .ok (.new i, 3)) (hp : pc + 3 = pc') {k' n' : Nat} (hk : k + 1 = k') (hn : n + m = n') (hc : k' ≤ R.cells) (hs : n' ≤ R.slots)
    (G : ∀ (h' : Heap) (b : Addr), Ext h h' → h.size ≤ b → n0 ≤ b → Exa Z h' b cl → (∀ {O nm d : String} {ty : FieldType}, Laid Z a0 cl O nm d → parseFieldDescriptor d = some ty → Fld Z h' b O nm d (defaultValue ty)) → Go w l R n0 Y h' k' n' pc' Ls (.ref b :: st)) : Go w l R n0 Y h k n pc Ls st := by
  subst hp hk hn
  intro T locs X hT hn N
  obtain ⟨T', h', X', e', E, A, D, -, s'⟩ := newO X C.hx C.hZ C.hown w1 w2 w3 hT (g := mkF w.m pc Ls st) rfl (C.d hd) hc hs
  obtain ⟨s₂, o, h1, h2⟩ := G h' _ E (Nat.le_refl _) hn.1 A D T' locs X' e' (own_grow hn E.1) N
  exact ⟨s₂, o, s' _ h1, h2⟩
theorem g_newarr (C : Cx w Z own bytes ml rt nm R n0 Q Y) {aty : ArrayType} {ad : String} {z : Int32} {cap : Nat} (w1 : (Jvm.Cond.arrayClass (newarray.typeOf aty)).before a0 Z = true) (hd : decode bytes pc = .ok (.newarray aty, 2)) (hp : pc + 2 = pc') (had : "[" ++ (newarray.typeOf aty).toString = ad) (hz : ¬ z < 0) (hcap : z.toNatClampNeg ≤ cap) (hb : cap * 8 ≤ 536870912) {k' n' : Nat} (hk : k + 1 = k') (hn : n + cap = n') (hc : k' ≤ R.cells) (hs : n' ≤ R.slots) (hfit : Jvm.fits (newarray.typeOf aty) (defaultValue (newarray.typeOf aty)) = true)
    (G : ∀ (h' : Heap) (b : Addr), Ext h h' → h.size ≤ b → n0 ≤ b → Arf Z h' b ad (newarray.typeOf aty) z (fun _ => defaultValue (newarray.typeOf aty)) → Go w l R n0 Y h' k' n' pc' Ls (.ref b :: rest)) : Go w l R n0 Y h k n pc Ls (.int z :: rest) := by
  subst hp hk hn
  intro T locs X hT hn N
  obtain ⟨T', h', cA, X', e', E, A, Ex, s'⟩ := newPE X C.hx C.hZ w1 hT (g := mkF w.m pc Ls (.int z :: rest)) rfl (C.d hd) rfl hz hcap hb hc hs had
  obtain ⟨s₂, o, h1, h2⟩ := G h' _ E (Nat.le_refl _) hn.1 ⟨Ex, _, A, sz_new _ _ _, hz, fun i hi => ⟨by rw [sz_new] at hi; simp [newA, hi], hfit⟩⟩ T' locs X' e' (own_grow hn E.1) N
  exact ⟨s₂, o, s' _ h1, h2⟩
theorem g_getF (C : Cx w Z own bytes ml rt nm R n0 Q Y) {R0 O nf d host : String} {i : Nat} {v : Value} (w1 : (Jvm.Cond.fieldLink own i R0 nf d).before a0 Z = true ∨ (Jvm.Cond.fieldLinkNest own i R0 nf d host).before a0 Z = true) (via : Via Z R0 O nf d) (F : Fld Z h a O nf d v) (hd : decode bytes pc = .ok (.getfield i, 3)) (hp : pc + 3 = pc')
    (G : Go w l R n0 Y h k n pc' Ls (v :: rest)) : Go w l R n0 Y h k n pc Ls (.ref a :: rest) := by
  subst hp
  intro T locs X hT hn N
  obtain ⟨T', X', e', s'⟩ := getF X C.hx C.hZ C.hown w1 via hT F (g := mkF w.m pc Ls (.ref a :: rest)) rfl rfl (C.d hd)
  obtain ⟨s₂, o, h1, h2⟩ := G T' locs X' e' hn N
  exact ⟨s₂, o, s' _ h1, h2⟩
theorem g_getS (C : Cx w Z own bytes ml rt nm R n0 Q Y) {R0 O nf d host : String} {i : Nat} {v : Value} (w1 : (Jvm.Cond.fieldLink own i R0 nf d).before a0 Z = true ∨ (Jvm.Cond.fieldLinkNest own i R0 nf d host).before a0 Z = true) (via : Via Z R0 O nf d) (F : Sta Z h O nf d v) (hd : decode bytes pc = .ok (.getstatic i, 3)) (hp : pc + 3 = pc')
    (G : Go w l R n0 Y h k n pc' Ls (v :: st)) : Go w l R n0 Y h k n pc Ls st := by
  subst hp
  intro T locs X hT hn N
  obtain ⟨T', X', e', s'⟩ := getS2 X C.hx C.hZ C.hown w1 via hT F (g := mkF w.m pc Ls st) rfl (C.d hd)
  obtain ⟨s₂, o, h1, h2⟩ := G T' locs X' e' hn N
  exact ⟨s₂, o, s' _ h1, h2⟩
theorem g_putF (C : Cx w Z own bytes ml rt nm R n0 Q Y) {R0 O nf d host cl : String} {i kk : Nat} {ty : FieldType} {v old : Value} (w1 : (Jvm.Cond.fieldLink own i R0 nf d).before a0 Z = true ∨ (Jvm.Cond.fieldLinkNest own i R0 nf d host).before a0 Z = true) (via : Via Z R0 O nf d) (F : Fld Z h a O nf d old) (E : Exa Z h a cl) (L : (Jvm.Cond.lays cl O nf d).before a0 Z = true ∨ ((Jvm.Cond.laysFinal cl O nf d).before a0 Z = true ∧ own = O ∧ nm = "<init>")) (wi : (Jvm.Cond.instantiable cl kk).before a0 Z = true)
    (hty : parseFieldDescriptor d = some ty) (hnr : narrow ty v = v) (hf : Jvm.fits ty v = true) (hd : decode bytes pc = .ok (.putfield i, 3)) (hp : pc + 3 = pc') (ha : n0 ≤ a)
    (G : ∀ h' : Heap, Wr h h' a (Jvm.RoadKit.slotOf Z O nf d) v → Go w l R n0 Y h' k n pc' Ls rest) : Go w l R n0 Y h k n pc Ls (v :: .ref a :: rest) := by
  subst hp
  intro T locs X hT hn N
  obtain ⟨T', h', X', e', W, s'⟩ := putF X C.hx C.hZ C.hown w1 via hT F E (L.imp id fun q => ⟨q.1, q.2.1, C.name.trans q.2.2⟩) wi hty hnr hf (g := mkF w.m pc Ls (v :: .ref a :: rest)) rfl rfl (C.d hd)
  obtain ⟨s₂, o, h1, h2⟩ := G h' W T' _ X' e' (by rw [W.size]; exact hn) (Fr.snoc X' N ha)
  exact ⟨s₂, o, s' _ h1, h2⟩
theorem g_putFN (C : Cx w Z own bytes ml rt nm R n0 Q Y) {R0 O nf d cl : String} {i kk : Nat} {ty : FieldType} {v v' old : Value} (w1 : (Jvm.Cond.fieldLink own i R0 nf d).before a0 Z = true) (via : Via Z R0 O nf d) (F : Fld Z h a O nf d old) (E : Exa Z h a cl) (L : (Jvm.Cond.lays cl O nf d).before a0 Z = true ∨ ((Jvm.Cond.laysFinal cl O nf d).before a0 Z = true ∧ own = O ∧ nm = "<init>")) (wi : (Jvm.Cond.instantiable cl kk).before a0 Z = true)
    (hty : parseFieldDescriptor d = some ty) (hnr : narrow ty v = v') (hf : Jvm.fits ty v' = true) (hd : decode bytes pc = .ok (.putfield i, 3)) (hp : pc + 3 = pc') (ha : n0 ≤ a)
    (G : ∀ h' : Heap, Wr h h' a (Jvm.RoadKit.slotOf Z O nf d) v' → Go w l R n0 Y h' k n pc' Ls rest) : Go w l R n0 Y h k n pc Ls (v :: .ref a :: rest) := by
  subst hp
  intro T locs X hT hn N
  obtain ⟨T', h', X', e', W, s'⟩ := putFN X C.hx C.hZ C.hown w1 via hT F E (L.imp id fun q => ⟨q.1, q.2.1, C.name.trans q.2.2⟩) wi hty hnr hf (g := mkF w.m pc Ls (v :: .ref a :: rest)) rfl rfl (C.d hd)
  obtain ⟨s₂, o, h1, h2⟩ := G h' W T' _ X' e' (by rw [W.size]; exact hn) (Fr.snoc X' N ha)
  exact ⟨s₂, o, s' _ h1, h2⟩
theorem g_bastore (C : Cx w Z own bytes ml rt nm R n0 Q Y) {j x : Int32} (F : Arf Z h a ad .byte z f) (hj : ¬ j < 0) (hz : j < z) (hd : decode bytes pc = .ok (.bastore, 1)) (hp : pc + 1 = pc') (ha : n0 ≤ a)
    (G : ∀ h' : Heap, Wr h h' a j.toNatClampNeg (.int (nar .byte x)) → Arf Z h' a ad .byte z (upd f j.toNatClampNeg (.int (nar .byte x))) → Go w l R n0 Y h' k n pc' Ls rest) : Go w l R n0 Y h k n pc Ls (.int x :: .int j :: .ref a :: rest) := by
  subst hp
  intro T locs X hT hn N
  obtain ⟨-, c, A, S, -⟩ := id F
  obtain ⟨T', h', X', e', W, s'⟩ := stB X C.hx C.hZ hT A (inb_of S ⟨hj, hz⟩) (g := mkF w.m pc Ls (.int x :: .int j :: .ref a :: rest)) rfl rfl (C.d hd)
  obtain ⟨s₂, o, h1, h2⟩ := G h' W (F.set W (fits_nar_byte _) hj) T' _ X' e' (by rw [W.size]; exact hn) (Fr.snoc X' N ha)
  exact ⟨s₂, o, s' _ h1, h2⟩
theorem g_zastore (C : Cx w Z own bytes ml rt nm R n0 Q Y) {j x : Int32} (F : Arf Z h a ad .boolean z f) (hj : ¬ j < 0) (hz : j < z) (hd : decode bytes pc = .ok (.bastore, 1)) (hp : pc + 1 = pc') (ha : n0 ≤ a)
    (G : ∀ h' : Heap, Wr h h' a j.toNatClampNeg (.int (nar .boolean x)) → Arf Z h' a ad .boolean z (upd f j.toNatClampNeg (.int (nar .boolean x))) → Go w l R n0 Y h' k n pc' Ls rest) : Go w l R n0 Y h k n pc Ls (.int x :: .int j :: .ref a :: rest) := by
  subst hp
  intro T locs X hT hn N
  obtain ⟨-, c, A, S, -⟩ := id F
  obtain ⟨T', h', X', e', W, s'⟩ := stZ X C.hx C.hZ hT A (inb_of S ⟨hj, hz⟩) (g := mkF w.m pc Ls (.int x :: .int j :: .ref a :: rest)) rfl rfl (C.d hd)
  obtain ⟨s₂, o, h1, h2⟩ := G h' W (F.set W (fits_nar_bool _) hj) T' _ X' e' (by rw [W.size]; exact hn) (Fr.snoc X' N ha)
  exact ⟨s₂, o, s' _ h1, h2⟩
theorem g_castore (C : Cx w Z own bytes ml rt nm R n0 Q Y) {j x : Int32} (F : Arf Z h a ad .char z f) (hj : ¬ j < 0) (hz : j < z) (hd : decode bytes pc = .ok (.castore, 1)) (hp : pc + 1 = pc') (ha : n0 ≤ a)
    (G : ∀ h' : Heap, Wr h h' a j.toNatClampNeg (.int (nar .char x)) → Arf Z h' a ad .char z (upd f j.toNatClampNeg (.int (nar .char x))) → Go w l R n0 Y h' k n pc' Ls rest) : Go w l R n0 Y h k n pc Ls (.int x :: .int j :: .ref a :: rest) := by
  subst hp
  intro T locs X hT hn N
  obtain ⟨-, c, A, S, -⟩ := id F
  obtain ⟨T', h', X', e', W, s'⟩ := stC X C.hx C.hZ hT A (inb_of S ⟨hj, hz⟩) (g := mkF w.m pc Ls (.int x :: .int j :: .ref a :: rest)) rfl rfl (C.d hd)
  obtain ⟨s₂, o, h1, h2⟩ := G h' W (F.set W (fits_nar_char _) hj) T' _ X' e' (by rw [W.size]; exact hn) (Fr.snoc X' N ha)
  exact ⟨s₂, o, s' _ h1, h2⟩
theorem g_iastore (C : Cx w Z own bytes ml rt nm R n0 Q Y) {j x : Int32} (F : Arf Z h a ad .int z f) (hj : ¬ j < 0) (hz : j < z) (hd : decode bytes pc = .ok (.iastore, 1)) (hp : pc + 1 = pc') (ha : n0 ≤ a)
    (G : ∀ h' : Heap, Wr h h' a j.toNatClampNeg (.int x) → Arf Z h' a ad .int z (upd f j.toNatClampNeg (.int x)) → Go w l R n0 Y h' k n pc' Ls rest) : Go w l R n0 Y h k n pc Ls (.int x :: .int j :: .ref a :: rest) := by
  subst hp
  intro T locs X hT hn N
  obtain ⟨-, c, A, S, -⟩ := id F
  obtain ⟨T', h', X', e', W, s'⟩ := stI X C.hx C.hZ hT A (inb_of S ⟨hj, hz⟩) (g := mkF w.m pc Ls (.int x :: .int j :: .ref a :: rest)) rfl rfl (C.d hd)
  obtain ⟨s₂, o, h1, h2⟩ := G h' W (F.set W (rfl) hj) T' _ X' e' (by rw [W.size]; exact hn) (Fr.snoc X' N ha)
  exact ⟨s₂, o, s' _ h1, h2⟩
theorem g_baload (C : Cx w Z own bytes ml rt nm R n0 Q Y) {j : Int32} {v : Value} (F : Arf Z h a ad .byte z f) (hj : ¬ j < 0) (hz : j < z) (hv : f j.toNatClampNeg = v) (hd : decode bytes pc = .ok (.baload, 1)) (hp : pc + 1 = pc')
    (G : Go w l R n0 Y h k n pc' Ls (v :: rest)) : Go w l R n0 Y h k n pc Ls (.int j :: .ref a :: rest) := by
  subst hp
  obtain ⟨-, c, A, S, -, r⟩ := F
  exact Go.stand (fun T t locs X hT K => X.baloadBytes C.hx (j := j) (v := v) (by rw [hT]; exact A.1) (State.isArrayOf_alike C.hZ.alike A.2.1) A.2.2 (inb_of S ⟨hj, hz⟩) (by rw [(r _ (by rw [S]; exact nat_lt hj hz)).1, hv]) (g := mkF w.m pc Ls (.int j :: .ref a :: rest)) rfl rfl (C.d hd) _ K) G
theorem g_zaload (C : Cx w Z own bytes ml rt nm R n0 Q Y) {j : Int32} {v : Value} (F : Arf Z h a ad .boolean z f) (hj : ¬ j < 0) (hz : j < z) (hv : f j.toNatClampNeg = v) (hd : decode bytes pc = .ok (.baload, 1)) (hp : pc + 1 = pc')
    (G : Go w l R n0 Y h k n pc' Ls (v :: rest)) : Go w l R n0 Y h k n pc Ls (.int j :: .ref a :: rest) := by
  subst hp
  obtain ⟨-, c, A, S, -, r⟩ := F
  exact Go.stand (fun T t locs X hT K => X.baloadBooleans C.hx (j := j) (v := v) (by rw [hT]; exact A.1) (State.isArrayOf_alike C.hZ.alike A.2.1) A.2.2 (inb_of S ⟨hj, hz⟩) (by rw [(r _ (by rw [S]; exact nat_lt hj hz)).1, hv]) (g := mkF w.m pc Ls (.int j :: .ref a :: rest)) rfl rfl (C.d hd) _ K) G
theorem g_caload (C : Cx w Z own bytes ml rt nm R n0 Q Y) {j : Int32} {v : Value} (F : Arf Z h a ad .char z f) (hj : ¬ j < 0) (hz : j < z) (hv : f j.toNatClampNeg = v) (hd : decode bytes pc = .ok (.caload, 1)) (hp : pc + 1 = pc')
    (G : Go w l R n0 Y h k n pc' Ls (v :: rest)) : Go w l R n0 Y h k n pc Ls (.int j :: .ref a :: rest) := by
  subst hp
  obtain ⟨-, c, A, S, -, r⟩ := F
  exact Go.stand (fun T t locs X hT K => X.caload C.hx (j := j) (v := v) (by rw [hT]; exact A.1) (State.isArrayOf_alike C.hZ.alike A.2.1) A.2.2 (inb_of S ⟨hj, hz⟩) (by rw [(r _ (by rw [S]; exact nat_lt hj hz)).1, hv]) (g := mkF w.m pc Ls (.int j :: .ref a :: rest)) rfl rfl (C.d hd) _ K) G
theorem g_iaload (C : Cx w Z own bytes ml rt nm R n0 Q Y) {j : Int32} {v : Value} (F : Arf Z h a ad .int z f) (hj : ¬ j < 0) (hz : j < z) (hv : f j.toNatClampNeg = v) (hd : decode bytes pc = .ok (.iaload, 1)) (hp : pc + 1 = pc')
    (G : Go w l R n0 Y h k n pc' Ls (v :: rest)) : Go w l R n0 Y h k n pc Ls (.int j :: .ref a :: rest) := by
  subst hp
  obtain ⟨-, c, A, S, -, r⟩ := F
  exact Go.stand (fun T t locs X hT K => X.iaload C.hx (j := j) (v := v) (by rw [hT]; exact A.1) (State.isArrayOf_alike C.hZ.alike A.2.1) A.2.2 (inb_of S ⟨hj, hz⟩) (by rw [(r _ (by rw [S]; exact nat_lt hj hz)).1, hv]) (g := mkF w.m pc Ls (.int j :: .ref a :: rest)) rfl rfl (C.d hd) _ K) G
theorem g_aaload (C : Cx w Z own bytes ml rt nm R n0 Q Y) {j : Int32} {v : Value} (hty : ty.isReference = true) (F : Arf Z h a ad ty z f) (hj : ¬ j < 0) (hz : j < z) (hv : f j.toNatClampNeg = v) (hd : decode bytes pc = .ok (.aaload, 1)) (hp : pc + 1 = pc')
    (G : Go w l R n0 Y h k n pc' Ls (v :: rest)) : Go w l R n0 Y h k n pc Ls (.int j :: .ref a :: rest) := by
  subst hp
  obtain ⟨-, c, A, S, -, r⟩ := F
  exact Go.stand (fun T t locs X hT K => X.aaload C.hx (j := j) (v := v) (by rw [hT]; exact A.1) (State.isArrayOf_alike C.hZ.alike A.2.1) hty A.2.2 (inb_of S ⟨hj, hz⟩) (by rw [(r _ (by rw [S]; exact nat_lt hj hz)).1, hv]) (g := mkF w.m pc Ls (.int j :: .ref a :: rest)) rfl rfl (C.d hd) _ K) G
theorem g_len (C : Cx w Z own bytes ml rt nm R n0 Q Y) (F : Arf Z h a ad ty z f) (hd : decode bytes pc = .ok (.arraylength, 1)) (hp : pc + 1 = pc') (G : Go w l R n0 Y h k n pc' Ls (.int z :: rest)) : Go w l R n0 Y h k n pc Ls (.ref a :: rest) := by
  subst hp
  obtain ⟨-, c, A, S, M, r⟩ := F
  refine Go.stand (fun T t locs X hT K => X.arraylength C.hx (by rw [hT]; exact A.1) (State.isArrayOf_alike C.hZ.alike A.2.1) (g := mkF w.m pc Ls (.ref a :: rest)) rfl rfl (C.d hd) _ ?_) G
  rw [len_of S M]; exact K
theorem g_cast (C : Cx w Z own bytes ml rt nm R n0 Q Y) {i : Nat} {cl : String} (w1 : (Jvm.Cond.classLink own i cl).before a0 Z = true) (I : Ins Z h a cl true) (hd : decode bytes pc = .ok (.checkcast i, 3)) (hp : pc + 3 = pc') (G : Go w l R n0 Y h k n pc' Ls (.ref a :: rest)) : Go w l R n0 Y h k n pc Ls (.ref a :: rest) := by
  subst hp
  intro T locs X hT hn N
  obtain ⟨T', X', e', s'⟩ := castY X C.hx C.hZ C.hown w1 hT I (g := mkF w.m pc Ls (.ref a :: rest)) rfl rfl (C.d hd)
  obtain ⟨s₂, o, h1, h2⟩ := G T' locs X' e' hn N
  exact ⟨s₂, o, s' _ h1, h2⟩
theorem g_castNull (C : Cx w Z own bytes ml rt nm R n0 Q Y) {i : Nat} (hd : decode bytes pc = .ok (.checkcast i, 3)) (hp : pc + 3 = pc') (G : Go w l R n0 Y h k n pc' Ls (.null :: rest)) : Go w l R n0 Y h k n pc Ls (.null :: rest) := by
  subst hp
  exact Go.stand (fun T t locs X hT K => X.checkcastNull C.hx (g := mkF w.m pc Ls (.null :: rest)) rfl rfl (C.d hd) _ K) G
theorem g_inst (C : Cx w Z own bytes ml rt nm R n0 Q Y) {i : Nat} {cl : String} (w1 : (Jvm.Cond.classLink own i cl).before a0 Z = true) (I : Ins Z h a cl true) (hd : decode bytes pc = .ok (.instanceof i, 3)) (hp : pc + 3 = pc') (G : Go w l R n0 Y h k n pc' Ls (.int 1 :: rest)) : Go w l R n0 Y h k n pc Ls (.ref a :: rest) := by
  subst hp
  intro T locs X hT hn N
  obtain ⟨T', X', e', s'⟩ := instY X C.hx C.hZ C.hown w1 hT I (g := mkF w.m pc Ls (.ref a :: rest)) rfl rfl (C.d hd)
  obtain ⟨s₂, o, h1, h2⟩ := G T' locs X' e' hn N
  exact ⟨s₂, o, s' _ h1, h2⟩
theorem g_initO (C : Cx w Z own bytes ml rt nm R n0 Q Y) {i : Nat} {W : Nat} (w1 : (Jvm.Cond.methodLink own i Lib.objectInit).before a0 Z = true) (w2 : (Jvm.Cond.instanceMethod Lib.objectInit).before a0 Z = true) (w3 : (Jvm.Cond.code Lib.objectInit ⟨#[0xb1]⟩ 1 none).before a0 Z = true) (hd : decode bytes pc = .ok (.invokespecial i, 3)) (hp : pc + 3 = pc') (hml : Ls.size = ml) (hf : 1 ≤ R.frames) (hW : (rest.map fun v => v.category).sum ≤ W) (hl : W + 12 ≤ R.locals)
    (G : Go w l R n0 Y h k n pc' Ls rest) : Go w l R n0 Y h k n pc Ls (.ref a :: rest) := by
  subst hp
  intro T locs X hT hn N
  obtain ⟨T', X', e', s'⟩ := initO X C.hx C.hZ C.hown w1 w2 w3 hT (g := mkF w.m pc Ls (.ref a :: rest)) rfl (by rw [C.hml]; exact hml) rfl (C.d hd) hf (W := W) (by simpa using hW) hl
  obtain ⟨s₂, o, h1, h2⟩ := G T' locs X' e' hn N
  exact ⟨s₂, o, s' _ h1, h2⟩
/-- what a callee's Back says here -/
abbrev PreB (R : Room) (h : Heap) (rm : Room) (as' : Array Value) : Pt → Array Value → Prop := fun A a => a = as' ∧ A.U.heap = h ∧ A.cells + rm.cells ≤ R.cells ∧ A.slots + rm.slots ≤ R.slots
abbrev PostB (n0 : Nat) (rm : Room) (Qc : Option Value → Heap → Prop) : Pt → Array Value → Option Value → Pt → Prop := fun A _ v B => ∃ L, (Qc v B.U.heap ∧ Fr n0 L ∧ A.U.heap.size ≤ B.U.heap.size) ∧ B.locs = A.locs ++ L ∧ B.cells = A.cells + rm.cells ∧ B.slots = A.slots + rm.slots
theorem Met.back {y : MethodName} {yb : ByteArray} {yl : Nat} {yr : Option FieldType} {rm : Room} {as' : Array Value} {Qc : Option Value → Heap → Prop} {W len : Nat} (M : Met l Z y yb yl yr rm n0 h as' Qc) (hn : n0 ≤ h.size) (hZ : Z.Warmed39 w.s.vm) (wc : (Jvm.Cond.code y yb yl yr).before a0 Z = true) (wz : (Jvm.Cond.initialized y.cls).before a0 Z = true) (hf : rm.frames + 1 ≤ R.frames) (hl : W + (yl + 11) + rm.locals ≤ R.locals) :
    Back l R w.p w.e w.below w.s w.as y len W (PreB R h rm as') (PostB n0 rm Qc) :=
  Back.mono (backOf (W := W) (Q := fun v h' L => Qc v h' ∧ Fr n0 L ∧ h.size ≤ h'.size) (M hn []) hZ wc wz hf hl) (fun P a hp => hp) (fun P a v B hp hq => by
    obtain ⟨L, q, r⟩ := hq
    exact ⟨L, ⟨q.1, q.2.1, by rw [hp.2.1]; exact q.2.2⟩, r⟩)
section Calls
variable {y y' : MethodName} {yb : ByteArray} {yl : Nat} {yr : Option FieldType} {rm : Room} {Qc : Option Value → Heap → Prop} {W i k' n' : Nat} {argsL : List Value} {cl : String}
theorem g_static (C : Cx w Z own bytes ml rt nm R n0 Q Y) (w1 : (Jvm.Cond.methodLink own i y).before a0 Z = true) (w2 : (Jvm.Cond.static y).before a0 Z = true) (w3 : (Jvm.Cond.initialized y.cls).before a0 Z = true) (w4 : (Jvm.Cond.code y yb yl yr).before a0 Z = true) (hy : y.cls ≠ "java/lang/invoke/MethodHandle" ∧ y.cls ≠ "java/lang/invoke/VarHandle")
    (hd : decode bytes pc = .ok (.invokestatic i, 3)) (hp : pc + 3 = pc') (hlen : ∀ sig, parseMethodDescriptor y.desc = some sig → argsL.length = sig.parameters.length) (hst : st = argsL.reverse ++ rest) (hW : (rest.map fun v => v.category).sum ≤ W) (hml : Ls.size = ml)
    (B : n0 ≤ h.size → Back l R w.p w.e w.below w.s w.as y 3 W (PreB R h rm argsL.toArray) (PostB n0 rm Qc)) (hk : k + rm.cells = k') (hn : n + rm.slots = n') (hc : k' ≤ R.cells) (hs : n' ≤ R.slots)
    (G : ∀ (v : Option Value) (h' : Heap), Qc v h' → Go w l R n0 Y h' k' n' pc' Ls (v.toList ++ rest)) : Go w l R n0 Y h k n pc Ls st := by
  subst hp hk hn
  intro T locs X hT hn N
  obtain ⟨v, vm₁, ⟨TB, LB, kB, nB⟩, -, X', ⟨L, hQ, l1, l2, l3⟩, s'⟩ := Jvm.LawKit.callS X C.hx C.hown (mvT C.hZ w1) (mvT C.hZ w2) (mvT C.hZ w3) (mvT C.hZ w4) hy (B hn.1) (g := mkF w.m pc Ls st) rfl (by rw [C.hml]; exact hml) (argsL := argsL) (rest := rest) hlen hst (by simpa using hW) (C.d hd) (fun vm₁ h₁ => ⟨rfl, hT, hc, hs⟩)
  dsimp only [Pt.U, Pt.locs, Pt.cells, Pt.slots] at X' l1 l2 l3 s' hQ
  subst l1 l2 l3
  obtain ⟨s₂, o, h1, h2⟩ := G v TB.heap hQ.1 TB _ X' rfl (own_grow hn (hT ▸ hQ.2.2)) (N.app hQ.2.1)
  exact ⟨s₂, o, s' _ h1, h2⟩
theorem g_special (C : Cx w Z own bytes ml rt nm R n0 Q Y) {yl0 : Nat} {yb0 : ByteArray} (hy1 : y.name = "<init>") (w1 : (Jvm.Cond.methodLink own i y).before a0 Z = true) (w2 : (Jvm.Cond.instanceMethod y).before a0 Z = true) (w4 : (Jvm.Cond.code y yb0 yl0 none).before a0 Z = true) (hy : y.cls ≠ "java/lang/invoke/MethodHandle" ∧ y.cls ≠ "java/lang/invoke/VarHandle")
    (hd : decode bytes pc = .ok (.invokespecial i, 3)) (hp : pc + 3 = pc') (hlen : ∀ sig, parseMethodDescriptor y.desc = some sig → argsL.length = sig.parameters.length) (hst : st = argsL.reverse ++ .ref a :: rest) (hW : (rest.map fun v => v.category).sum ≤ W) (hml : Ls.size = ml)
    (B : n0 ≤ h.size → Back l R w.p w.e w.below w.s w.as y 3 W (PreB R h rm (.ref a :: argsL).toArray) (PostB n0 rm Qc)) (hk : k + rm.cells = k') (hn : n + rm.slots = n') (hc : k' ≤ R.cells) (hs : n' ≤ R.slots)
    (G : ∀ (v : Option Value) (h' : Heap), Qc v h' → Go w l R n0 Y h' k' n' pc' Ls (v.toList ++ rest)) : Go w l R n0 Y h k n pc Ls st := by
  subst hp hk hn
  intro T locs X hT hn N
  obtain ⟨v, vm₁, ⟨TB, LB, kB, nB⟩, -, X', ⟨L, hQ, l1, l2, l3⟩, s'⟩ := X.specialBack C.hx hy1 C.hown (mvT C.hZ w1) (mvT C.hZ w2) (mvT C.hZ w4) hy (B hn.1) (g := mkF w.m pc Ls st) rfl (by rw [C.hml]; exact hml) (Steps.refl _) (a := a) (argsL := argsL) (rest := rest) hlen hst (by simpa using hW) (C.d hd) (fun vm₁ h₁ => ⟨rfl, hT, hc, hs⟩)
  dsimp only [Pt.U, Pt.locs, Pt.cells, Pt.slots] at X' l1 l2 l3 s' hQ
  subst l1 l2 l3
  obtain ⟨s₂, o, h1, h2⟩ := G v TB.heap hQ.1 TB _ X' rfl (own_grow hn (hT ▸ hQ.2.2)) (N.app hQ.2.1)
  exact ⟨s₂, o, s'.trans h1, h2⟩
theorem g_virtual (C : Cx w Z own bytes ml rt nm R n0 Q Y) (w1 : (Jvm.Cond.methodLink own i y).before a0 Z = true) (w2 : (Jvm.Cond.declares y).before a0 Z = true) (nf : NotFace w.s y) (w3 : (Jvm.Cond.selects cl y y').before a0 Z = true) (w4 : (Jvm.Cond.instanceMethod y').before a0 Z = true) (hy : y.cls ≠ "java/lang/invoke/MethodHandle" ∧ y.cls ≠ "java/lang/invoke/VarHandle") (E : Exa Z h a cl)
    (hd : decode bytes pc = .ok (.invokevirtual i, 3)) (hp : pc + 3 = pc') (hlen : ∀ sig, parseMethodDescriptor y.desc = some sig → argsL.length = sig.parameters.length) (hst : st = argsL.reverse ++ .ref a :: rest) (hW : (rest.map fun v => v.category).sum ≤ W) (hml : Ls.size = ml)
    (B : n0 ≤ h.size → Back l R w.p w.e w.below w.s w.as y' 3 W (PreB R h rm (.ref a :: argsL).toArray) (PostB n0 rm Qc)) (hk : k + rm.cells = k') (hn : n + rm.slots = n') (hc : k' ≤ R.cells) (hs : n' ≤ R.slots)
    (G : ∀ (v : Option Value) (h' : Heap), Qc v h' → Go w l R n0 Y h' k' n' pc' Ls (v.toList ++ rest)) : Go w l R n0 Y h k n pc Ls st := by
  subst hp hk hn
  intro T locs X hT hn N
  obtain ⟨cq, kq, qa, qb, qc⟩ := isOf C.hZ hT E
  obtain ⟨v, vm₁, ⟨TB, LB, kB, nB⟩, -, X', ⟨L, hQ, l1, l2, l3⟩, s'⟩ := X.virtualBack C.hx C.hown (mvT C.hZ w1) (mvT C.hZ w2) nf (mvT C.hZ w3) (mvT C.hZ w4) hy (B hn.1) qa qc (g := mkF w.m pc Ls st) rfl (by rw [C.hml]; exact hml) (Steps.refl _) (argsL := argsL) (rest := rest) hlen hst (by simpa using hW) (C.d hd) (fun vm₁ h₁ => ⟨rfl, hT, hc, hs⟩)
  dsimp only [Pt.U, Pt.locs, Pt.cells, Pt.slots] at X' l1 l2 l3 s' hQ
  subst l1 l2 l3
  obtain ⟨s₂, o, h1, h2⟩ := G v TB.heap hQ.1 TB _ X' rfl (own_grow hn (hT ▸ hQ.2.2)) (N.app hQ.2.1)
  exact ⟨s₂, o, s'.trans h1, h2⟩
theorem g_nf (C : Cx w Z own bytes ml rt nm R n0 Q Y) (w3 : (Jvm.Cond.selects cl y y).before a0 Z = true) : NotFace w.s y := notFace_of_selects (args := #[]) (mvT C.hZ w3)
theorem g_selPriv (C : Cx w Z own bytes ml rt nm R n0 Q Y) {yo : MethodName} (hc : yo.cls = y.cls) (w3 : (Jvm.Cond.selects yo.cls yo yo).before a0 Z = true) (w2 : (Jvm.Cond.instanceMethod y).before a0 Z = true) (w5 : (Jvm.Cond.privateMethod y).before a0 Z = true) (hy : y.cls ≠ "java/lang/invoke/MethodHandle" ∧ y.cls ≠ "java/lang/invoke/VarHandle") : (Jvm.Cond.selects y.cls y y).before w.as w.s = true := by
  have h3 : (Jvm.Cond.selects yo.cls yo yo).before w.as w.s = true := mvT C.hZ w3
  obtain ⟨c2, r2, m2, -, -, q3, -, kP, hkP, hkPi⟩ := Cond.selects_spec h3
  exact selects_self_of_private (c := m2.cls) (hc ▸ findClass_of_methodNamed q3) hkP hkPi (Cond.privateMethod_at (mvP C.hZ w5 (args := #[]))) (mvT C.hZ w2) hy
theorem g_private (C : Cx w Z own bytes ml rt nm R n0 Q Y) (w1 : (Jvm.Cond.methodLink own i y).before a0 Z = true) (w2 : (Jvm.Cond.instanceMethod y).before a0 Z = true) (w3 : (Jvm.Cond.selects y.cls y y).before w.as w.s = true) (w5 : (Jvm.Cond.privateMethod y).before a0 Z = true) (w4 : (Jvm.Cond.code y yb yl yr).before a0 Z = true) (hy : y.cls ≠ "java/lang/invoke/MethodHandle" ∧ y.cls ≠ "java/lang/invoke/VarHandle") (E : Exa Z h a cl)
    (hd : decode bytes pc = .ok (.invokevirtual i, 3)) (hp : pc + 3 = pc') (hlen : ∀ sig, parseMethodDescriptor y.desc = some sig → argsL.length = sig.parameters.length) (hst : st = argsL.reverse ++ .ref a :: rest) (hW : (rest.map fun v => v.category).sum ≤ W) (hml : Ls.size = ml)
    (B : n0 ≤ h.size → Back l R w.p w.e w.below w.s w.as y 3 W (PreB R h rm (.ref a :: argsL).toArray) (PostB n0 rm Qc)) (hk : k + rm.cells = k') (hn : n + rm.slots = n') (hc : k' ≤ R.cells) (hs : n' ≤ R.slots)
    (G : ∀ (v : Option Value) (h' : Heap), Qc v h' → Go w l R n0 Y h' k' n' pc' Ls (v.toList ++ rest)) : Go w l R n0 Y h k n pc Ls st := by
  subst hp hk hn
  intro T locs X hT hn N
  obtain ⟨cq, q1, q2⟩ := E.cell
  obtain ⟨v, vm₁, ⟨TB, LB, kB, nB⟩, -, X', ⟨L, hQ, l1, l2, l3⟩, s'⟩ := X.privateBack C.hx C.hown (mvT C.hZ w1) (mvT C.hZ w2) w3 (Cond.privateMethod_at (mvP C.hZ w5 (args := #[]))) (mvT C.hZ w4) hy (B hn.1) (g := mkF w.m pc Ls st) rfl (by rw [C.hml]; exact hml) (Steps.refl _) (a := a) (by rw [hT]; exact q1) q2 (argsL := argsL) (rest := rest) hlen hst (by simpa using hW) (C.d hd) (fun vm₁ h₁ => ⟨rfl, hT, hc, hs⟩)
  dsimp only [Pt.U, Pt.locs, Pt.cells, Pt.slots] at X' l1 l2 l3 s' hQ
  subst l1 l2 l3
  obtain ⟨s₂, o, h1, h2⟩ := G v TB.heap hQ.1 TB _ X' rfl (own_grow hn (hT ▸ hQ.2.2)) (N.app hQ.2.1)
  exact ⟨s₂, o, s'.trans h1, h2⟩
theorem g_iface (C : Cx w Z own bytes ml rt nm R n0 Q Y) {ct : Nat} (w1 : (Jvm.Cond.methodLink own i y).before a0 Z = true) (w2 : (Jvm.Cond.declares y).before a0 Z = true) (w3 : (Jvm.Cond.interfaceMethod y.cls y.cls y.name y.desc).before a0 Z = true) (fa : ((Jvm.Cond.interfaceMethod y.cls y.cls y.name y.desc).onTables && (Jvm.Cond.interfaceMethod y.cls y.cls y.name y.desc).keepsFace) = true) (w4 : (Jvm.Cond.selects cl y y').before a0 Z = true) (w5 : (Jvm.Cond.instanceMethod y').before a0 Z = true) (w6 : (Jvm.Cond.publicMethod y').before a0 Z = true) (w7 : (Jvm.Cond.unhidden cl y.name y.desc).before a0 Z = true) (w8 : (Jvm.Cond.castable cl y.cls).before a0 Z = true) (hy : y.cls ≠ "java/lang/invoke/MethodHandle" ∧ y.cls ≠ "java/lang/invoke/VarHandle") (E : Exa Z h a cl)
    (hd : decode bytes pc = .ok (.invokeinterface i ct, 5)) (hp : pc + 5 = pc') (hlen : ∀ sig, parseMethodDescriptor y.desc = some sig → argsL.length = sig.parameters.length) (hst : st = argsL.reverse ++ .ref a :: rest) (hW : (rest.map fun v => v.category).sum ≤ W) (hml : Ls.size = ml)
    (B : n0 ≤ h.size → Back l R w.p w.e w.below w.s w.as y' 5 W (PreB R h rm (.ref a :: argsL).toArray) (PostB n0 rm Qc)) (hk : k + rm.cells = k') (hn : n + rm.slots = n') (hc : k' ≤ R.cells) (hs : n' ≤ R.slots)
    (G : ∀ (v : Option Value) (h' : Heap), Qc v h' → Go w l R n0 Y h' k' n' pc' Ls (v.toList ++ rest)) : Go w l R n0 Y h k n pc Ls st := by
  subst hp hk hn
  intro T locs X hT hn N
  obtain ⟨cq, kq, qa, qb, qc⟩ := isOf C.hZ hT E
  obtain ⟨v, vm₁, ⟨TB, LB, kB, nB⟩, -, X', ⟨L, hQ, l1, l2, l3⟩, s'⟩ := X.interfaceBack C.hx C.hown (mvT C.hZ w1) (mvT C.hZ w2) (mvT C.hZ w3 fa) (mvT C.hZ w4) (mvT C.hZ w5) (mvT C.hZ w6) (mvT C.hZ w7) (mvT C.hZ w8) hy (B hn.1) qa qb qc (g := mkF w.m pc Ls st) rfl (by rw [C.hml]; exact hml) (Steps.refl _) (argsL := argsL) (rest := rest) hlen hst (by simpa using hW) (C.d hd) (fun vm₁ h₁ => ⟨rfl, hT, hc, hs⟩)
  dsimp only [Pt.U, Pt.locs, Pt.cells, Pt.slots] at X' l1 l2 l3 s' hQ
  subst l1 l2 l3
  obtain ⟨s₂, o, h1, h2⟩ := G v TB.heap hQ.1 TB _ X' rfl (own_grow hn (hT ▸ hQ.2.2)) (N.app hQ.2.1)
  exact ⟨s₂, o, s'.trans h1, h2⟩
end Calls
end OwnKit
section OwnKit2
variable {w : Wk} {l : Launch} {R : Room} {Z : State} {a0 : Array Value} {own : String} {bytes : ByteArray} {ml : Nat} {rt : Option FieldType} {nm : String} {n0 : Nat} {Q : Option Value → Heap → Prop} {Y : State → Outcome → Prop} {h : Heap} {k n pc pc' : Nat} {Ls Ls' : Array Slot} {st rest : List Value} {a b : Addr} {ad : String} {ty : FieldType} {z : Int32} {f : Nat → Value} {h' : Heap}
theorem own_getD (f : Nat → Value) (m i : Nat) (d : Value) (hi : i < m) : ((List.range m).map f).getD i d = f i := by simp [List.getD, hi]
theorem g_clone (C : Cx w Z own bytes ml rt nm R n0 Q Y) {i W cap k' n' : Nat} (w1 : (Jvm.Cond.methodLink own i ⟨ad, "clone", "()Ljava/lang/Object;"⟩).before a0 Z = true) (w2 : (Jvm.Cond.sameMethod ad "java/lang/Object" "clone" "()Ljava/lang/Object;").before a0 Z = true) (w3 : (Jvm.Cond.native ⟨"java/lang/Object", "clone", "()Ljava/lang/Object;"⟩).before a0 Z = true) (w4 : (Jvm.Cond.instanceMethod ⟨"java/lang/Object", "clone", "()Ljava/lang/Object;"⟩).before a0 Z = true) (w5 : (Jvm.Cond.selects ad ⟨ad, "clone", "()Ljava/lang/Object;"⟩ ⟨"java/lang/Object", "clone", "()Ljava/lang/Object;"⟩).before a0 Z = true) (w6 : (Jvm.Cond.castable ad "java/lang/Cloneable").before a0 Z = true)
    (F : Arf Z h a ad ty z f) (hd : decode bytes pc = .ok (.invokevirtual i, 3)) (hp : pc + 3 = pc') (hml : Ls.size = ml) (hf : 1 ≤ R.frames) (hW : (rest.map fun v => v.category).sum ≤ W) (hl : W + 14 ≤ R.locals) (hcap : z.toNatClampNeg ≤ cap) (hk : k + 1 = k') (hn : n + cap = n') (hc : k' ≤ R.cells) (hs : n' ≤ R.slots)
    (G : ∀ (h' : Heap) (b : Addr), Ext h h' → h.size ≤ b → n0 ≤ b → Arf Z h' b ad ty z f → Go w l R n0 Y h' k' n' pc' Ls (.ref b :: rest)) : Go w l R n0 Y h k n pc Ls (.ref a :: rest) := by
  subst hp hk hn
  intro T locs X hT hn N
  obtain ⟨kc, V⟩ := F.arv .null
  obtain ⟨T', h', X', e', E, A, Ex, s'⟩ := cloneH X C.hx C.hZ C.hown w1 w2 w3 w4 w5 w6 hT V.arh F.1 (g := mkF w.m pc Ls (.ref a :: rest)) rfl (by rw [C.hml]; exact hml) rfl (C.d hd) hf (W := W) (by simpa using hW) hl hcap hc hs
  have A' : Arv Z h' h.size kc ty z ((List.range z.toNatClampNeg).map f) .null := A
  obtain ⟨s₂, o, h1, h2⟩ := G h' _ E (Nat.le_refl _) hn.1 ((Arf.of_arv Ex A').congr fun i hi => own_getD _ _ _ _ hi) T' locs X' e' (own_grow hn E.1) N
  exact ⟨s₂, o, s' _ h1, h2⟩
theorem own_acopy_list (f g : Nat → Value) (n m dp sp : Nat) (h : dp + m ≤ n) (i : Nat) (hi : i < n) :
    ((((List.range n).map g).take dp ++ (List.range m).map (fun j => ((List.range (sp + m)).map f).getD (sp + j) .null)) ++ ((List.range n).map g).drop (dp + m)).getD i .null = if dp ≤ i ∧ i < dp + m then f (sp + (i - dp)) else g i := by
  have l1 : (((List.range n).map g).take dp).length = dp := by simp; omega
  by_cases c1 : i < dp
  · rw [if_neg (by omega)]
    simp only [List.getD, List.getElem?_append, l1, List.length_append, List.length_map, List.length_range]
    simp [c1, show i < dp + m by omega, hi, List.getElem?_take]
  · by_cases c2 : i < dp + m
    · rw [if_pos (by omega)]
      simp only [List.getD, List.getElem?_append, l1, List.length_append, List.length_map, List.length_range]
      simp [c1, c2, show i - dp < m by omega, show sp + (i - dp) < sp + m by omega]
    · rw [if_neg (by omega)]
      simp only [List.getD, List.getElem?_append, l1, List.length_append, List.length_map, List.length_range]
      simp [c2, List.getElem?_drop, show dp + m + (i - (dp + m)) = i by omega, hi]
theorem g_acopy (C : Cx w Z own bytes ml rt nm R n0 Q Y) {i W : Nat} {ad' : String} {g : Nat → Value} {z' sp dp m : Int32} (w1 : (Jvm.Cond.methodLink own i Jvm.Stand.acN).before a0 Z = true) (w2 : (Jvm.Cond.native Jvm.Stand.acN).before a0 Z = true) (w3 : (Jvm.Cond.static Jvm.Stand.acN).before a0 Z = true) (w4 : (Jvm.Cond.initialized "java/lang/System").before a0 Z = true)
    (A : Arf Z h a ad ty z f) (B : Arf Z h b ad' ty z' g) (hty : refKind ty = false) (h1 : ¬ sp < 0) (h2 : ¬ dp < 0) (h3 : ¬ m < 0) (h4 : sp.toNatClampNeg + m.toNatClampNeg ≤ z.toNatClampNeg) (h5 : dp.toNatClampNeg + m.toNatClampNeg ≤ z'.toNatClampNeg) (ge : n0 ≤ b)
    (hd : decode bytes pc = .ok (.invokestatic i, 3)) (hp : pc + 3 = pc') (hml : Ls.size = ml) (hf : 1 ≤ R.frames) (hW : (rest.map fun v => v.category).sum ≤ W) (hl : W + 18 ≤ R.locals)
    (G : ∀ h' : Heap, Keep h h' [b] → Arf Z h' b ad' ty z' (fun i => if dp.toNatClampNeg ≤ i ∧ i < dp.toNatClampNeg + m.toNatClampNeg then f (sp.toNatClampNeg + (i - dp.toNatClampNeg)) else g i) → Go w l R n0 Y h' k n pc' Ls rest) : Go w l R n0 Y h k n pc Ls (.int m :: .int dp :: .ref b :: .int sp :: .ref a :: rest) := by
  subst hp
  intro T locs X hT hn N
  obtain ⟨kc, V⟩ := A.arv .null
  obtain ⟨kd, U⟩ := B.arv .null
  obtain ⟨T', h', L, X', e', N', K, A', s'⟩ := cpA X C.hx C.hZ C.hown w1 w2 w3 w4 hT V U (Or.inl ⟨rfl, hty⟩) h1 h2 h3 h4 h5 rfl (by simpa using h5) N ge (g := mkF w.m pc Ls (.int m :: .int dp :: .ref b :: .int sp :: .ref a :: rest)) rfl (by rw [C.hml]; exact hml) rfl (C.d hd) hf (W := W) (by simpa using hW) (by rw [show nativeFrameWords "java/lang/System" "arraycopy" 5 = 7 from by decide]; exact hl)
  have F := (Arf.of_arv (B.1.keep K) A')
  have F' : Arf Z h' b ad' ty z' (fun i => if dp.toNatClampNeg ≤ i ∧ i < dp.toNatClampNeg + m.toNatClampNeg then f (sp.toNatClampNeg + (i - dp.toNatClampNeg)) else g i) := by
    refine F.congr fun i hi => ?_
    show _ = if dp.toNatClampNeg ≤ i ∧ i < dp.toNatClampNeg + m.toNatClampNeg then f (sp.toNatClampNeg + (i - dp.toNatClampNeg)) else g i
    rw [← own_acopy_list f g z'.toNatClampNeg m.toNatClampNeg dp.toNatClampNeg sp.toNatClampNeg h5 i hi]
    congr 2
    congr 1
    apply List.map_congr_left
    intro j hj
    have hj' := List.mem_range.mp hj
    rw [own_getD _ _ _ _ (by omega), own_getD _ _ _ _ (by omega)]
  obtain ⟨s₂, o, g1, g2⟩ := G h' K F' T' L X' e' (own_grow hn K.1) N'
  exact ⟨s₂, o, s' _ g1, g2⟩
end OwnKit2
theorem n32_toInt {n : Nat} (h : n < 2147483648) : (Int32.ofNat n).toInt = n := Int32.toInt_ofNat_of_lt (by omega)
theorem n32_nat {n : Nat} (h : n < 2147483648) : (Int32.ofNat n).toNatClampNeg = n := by rw [Int32.toNatClampNeg, n32_toInt h]; rfl
theorem n32_nn {n : Nat} (h : n < 2147483648) : ¬ Int32.ofNat n < 0 := by
  rw [Int32.lt_iff_toInt_lt, n32_toInt h, show (0 : Int32).toInt = 0 from rfl]; omega
theorem n32_lt {i n : Nat} (h : i < n) (hn : n < 2147483648) : Int32.ofNat i < Int32.ofNat n := by
  rw [Int32.lt_iff_toInt_lt, n32_toInt hn, n32_toInt (by omega)]; omega
theorem n32_ge {i n : Nat} (h : n ≤ i) (hn : i < 2147483648) : ¬ Int32.ofNat i < Int32.ofNat n := by
  rw [Int32.lt_iff_toInt_lt, n32_toInt hn, n32_toInt (by omega)]; omega
theorem n32_succ (i : Nat) : Int32.ofNat i + (1 : Int32) = Int32.ofNat (i + 1) := (Int32.ofNat_add i 1).symm
theorem n32_of {z : Int32} (h : ¬ z < 0) : z = Int32.ofNat z.toNatClampNeg := by
  rw [Int32.lt_iff_toInt_lt, show (0 : Int32).toInt = 0 from rfl] at h
  have r := rng32 z
  rw [← Int32.toInt_inj, n32_toInt (by simp only [Int32.toNatClampNeg]; omega)]
  simp only [Int32.toNatClampNeg]; omega
theorem n32_lit {z : Int32} {n : Nat} (h : z.toInt = n) : z.toNatClampNeg = n := by simp only [Int32.toNatClampNeg]; omega

theorem d1_0 : decode jdk_29_method_69_code 0 = .ok (.iload_n 0, 1) := by decide +kernel
theorem d1_1 : decode jdk_29_method_69_code 1 = .ok (.iload_n 1, 1) := by decide +kernel
theorem d1_2 : decode jdk_29_method_69_code 2 = .ok (.if_icmp .gt 7, 3) := by decide +kernel
theorem d1_5 : decode jdk_29_method_69_code 5 = .ok (.iload_n 0, 1) := by decide +kernel
theorem d1_6 : decode jdk_29_method_69_code 6 = .ok (.goto 4, 3) := by decide +kernel
theorem d1_9 : decode jdk_29_method_69_code 9 = .ok (.iload_n 1, 1) := by decide +kernel
theorem d1_10 : decode jdk_29_method_69_code 10 = .ok (.ireturn, 1) := by decide +kernel
theorem d2_0 : decode prog_29_method_5_code 0 = .ok (.iconst 0, 1) := by decide +kernel
theorem d2_1 : decode prog_29_method_5_code 1 = .ok (.istore_n 3, 1) := by decide +kernel
theorem d2_2 : decode prog_29_method_5_code 2 = .ok (.iload_n 1, 1) := by decide +kernel
theorem d2_3 : decode prog_29_method_5_code 3 = .ok (.istore 4, 2) := by decide +kernel
theorem d2_5 : decode prog_29_method_5_code 5 = .ok (.iload 4, 2) := by decide +kernel
theorem d2_7 : decode prog_29_method_5_code 7 = .ok (.iload_n 1, 1) := by decide +kernel
theorem d2_8 : decode prog_29_method_5_code 8 = .ok (.iload_n 2, 1) := by decide +kernel
theorem d2_9 : decode prog_29_method_5_code 9 = .ok (.iadd, 1) := by decide +kernel
theorem d2_10 : decode prog_29_method_5_code 10 = .ok (.if_icmp .ge 67, 3) := by decide +kernel
theorem d2_13 : decode prog_29_method_5_code 13 = .ok (.iload_n 3, 1) := by decide +kernel
theorem d2_14 : decode prog_29_method_5_code 14 = .ok (.aload_n 0, 1) := by decide +kernel
theorem d2_15 : decode prog_29_method_5_code 15 = .ok (.iload 4, 2) := by decide +kernel
theorem d2_17 : decode prog_29_method_5_code 17 = .ok (.baload, 1) := by decide +kernel
theorem d2_18 : decode prog_29_method_5_code 18 = .ok (.sipush 255, 3) := by decide +kernel
theorem d2_21 : decode prog_29_method_5_code 21 = .ok (.iand, 1) := by decide +kernel
theorem d2_22 : decode prog_29_method_5_code 22 = .ok (.bipush 8, 2) := by decide +kernel
theorem d2_24 : decode prog_29_method_5_code 24 = .ok (.ishl, 1) := by decide +kernel
theorem d2_25 : decode prog_29_method_5_code 25 = .ok (.ixor, 1) := by decide +kernel
theorem d2_26 : decode prog_29_method_5_code 26 = .ok (.istore_n 3, 1) := by decide +kernel
theorem d2_27 : decode prog_29_method_5_code 27 = .ok (.iconst 0, 1) := by decide +kernel
theorem d2_28 : decode prog_29_method_5_code 28 = .ok (.istore 5, 2) := by decide +kernel
theorem d2_30 : decode prog_29_method_5_code 30 = .ok (.iload 5, 2) := by decide +kernel
theorem d2_32 : decode prog_29_method_5_code 32 = .ok (.bipush 8, 2) := by decide +kernel
theorem d2_34 : decode prog_29_method_5_code 34 = .ok (.if_icmp .ge 37, 3) := by decide +kernel
theorem d2_37 : decode prog_29_method_5_code 37 = .ok (.iload_n 3, 1) := by decide +kernel
theorem d2_38 : decode prog_29_method_5_code 38 = .ok (.ldc 46, 2) := by decide +kernel
theorem d2_40 : decode prog_29_method_5_code 40 = .ok (.iand, 1) := by decide +kernel
theorem d2_41 : decode prog_29_method_5_code 41 = .ok (.ifCond .eq 17, 3) := by decide +kernel
theorem d2_44 : decode prog_29_method_5_code 44 = .ok (.iload_n 3, 1) := by decide +kernel
theorem d2_45 : decode prog_29_method_5_code 45 = .ok (.iconst 1, 1) := by decide +kernel
theorem d2_46 : decode prog_29_method_5_code 46 = .ok (.ishl, 1) := by decide +kernel
theorem d2_47 : decode prog_29_method_5_code 47 = .ok (.sipush 4129, 3) := by decide +kernel
theorem d2_50 : decode prog_29_method_5_code 50 = .ok (.ixor, 1) := by decide +kernel
theorem d2_51 : decode prog_29_method_5_code 51 = .ok (.ldc 47, 2) := by decide +kernel
theorem d2_53 : decode prog_29_method_5_code 53 = .ok (.iand, 1) := by decide +kernel
theorem d2_54 : decode prog_29_method_5_code 54 = .ok (.istore_n 3, 1) := by decide +kernel
theorem d2_55 : decode prog_29_method_5_code 55 = .ok (.goto 10, 3) := by decide +kernel
theorem d2_58 : decode prog_29_method_5_code 58 = .ok (.iload_n 3, 1) := by decide +kernel
theorem d2_59 : decode prog_29_method_5_code 59 = .ok (.iconst 1, 1) := by decide +kernel
theorem d2_60 : decode prog_29_method_5_code 60 = .ok (.ishl, 1) := by decide +kernel
theorem d2_61 : decode prog_29_method_5_code 61 = .ok (.ldc 47, 2) := by decide +kernel
theorem d2_63 : decode prog_29_method_5_code 63 = .ok (.iand, 1) := by decide +kernel
theorem d2_64 : decode prog_29_method_5_code 64 = .ok (.istore_n 3, 1) := by decide +kernel
theorem d2_65 : decode prog_29_method_5_code 65 = .ok (.iinc 5 1, 3) := by decide +kernel
theorem d2_68 : decode prog_29_method_5_code 68 = .ok (.goto (-38), 3) := by decide +kernel
theorem d2_71 : decode prog_29_method_5_code 71 = .ok (.iinc 4 1, 3) := by decide +kernel
theorem d2_74 : decode prog_29_method_5_code 74 = .ok (.goto (-69), 3) := by decide +kernel
theorem d2_77 : decode prog_29_method_5_code 77 = .ok (.iload_n 3, 1) := by decide +kernel
theorem d2_78 : decode prog_29_method_5_code 78 = .ok (.ireturn, 1) := by decide +kernel
theorem d3_0 : decode method_3_code 0 = .ok (.iload_n 0, 1) := by decide +kernel
theorem d3_1 : decode method_3_code 1 = .ok (.bipush 8, 2) := by decide +kernel
theorem d3_3 : decode method_3_code 3 = .ok (.ishl, 1) := by decide +kernel
theorem d3_4 : decode method_3_code 4 = .ok (.ldc 9, 2) := by decide +kernel
theorem d3_6 : decode method_3_code 6 = .ok (.iand, 1) := by decide +kernel
theorem d3_7 : decode method_3_code 7 = .ok (.iload_n 0, 1) := by decide +kernel
theorem d3_8 : decode method_3_code 8 = .ok (.bipush 8, 2) := by decide +kernel
theorem d3_10 : decode method_3_code 10 = .ok (.iushr, 1) := by decide +kernel
theorem d3_11 : decode method_3_code 11 = .ok (.iload_n 1, 1) := by decide +kernel
theorem d3_12 : decode method_3_code 12 = .ok (.ixor, 1) := by decide +kernel
theorem d3_13 : decode method_3_code 13 = .ok (.sipush 255, 3) := by decide +kernel
theorem d3_16 : decode method_3_code 16 = .ok (.iand, 1) := by decide +kernel
theorem d3_17 : decode method_3_code 17 = .ok (.invokestatic 10, 3) := by decide +kernel
theorem d3_20 : decode method_3_code 20 = .ok (.ixor, 1) := by decide +kernel
theorem d3_21 : decode method_3_code 21 = .ok (.ireturn, 1) := by decide +kernel
theorem d4_0 : decode method_2_code 0 = .ok (.iconst 0, 1) := by decide +kernel
theorem d4_1 : decode method_2_code 1 = .ok (.istore_n 1, 1) := by decide +kernel
theorem d4_2 : decode method_2_code 2 = .ok (.iload_n 0, 1) := by decide +kernel
theorem d4_3 : decode method_2_code 3 = .ok (.iconst 1, 1) := by decide +kernel
theorem d4_4 : decode method_2_code 4 = .ok (.iand, 1) := by decide +kernel
theorem d4_5 : decode method_2_code 5 = .ok (.ifCond .eq 9, 3) := by decide +kernel
theorem d4_8 : decode method_2_code 8 = .ok (.iload_n 1, 1) := by decide +kernel
theorem d4_9 : decode method_2_code 9 = .ok (.sipush 4129, 3) := by decide +kernel
theorem d4_12 : decode method_2_code 12 = .ok (.ixor, 1) := by decide +kernel
theorem d4_13 : decode method_2_code 13 = .ok (.istore_n 1, 1) := by decide +kernel
theorem d4_14 : decode method_2_code 14 = .ok (.iload_n 0, 1) := by decide +kernel
theorem d4_15 : decode method_2_code 15 = .ok (.iconst 2, 1) := by decide +kernel
theorem d4_16 : decode method_2_code 16 = .ok (.iand, 1) := by decide +kernel
theorem d4_17 : decode method_2_code 17 = .ok (.ifCond .eq 9, 3) := by decide +kernel
theorem d4_20 : decode method_2_code 20 = .ok (.iload_n 1, 1) := by decide +kernel
theorem d4_21 : decode method_2_code 21 = .ok (.sipush 8258, 3) := by decide +kernel
theorem d4_24 : decode method_2_code 24 = .ok (.ixor, 1) := by decide +kernel
theorem d4_25 : decode method_2_code 25 = .ok (.istore_n 1, 1) := by decide +kernel
theorem d4_26 : decode method_2_code 26 = .ok (.iload_n 0, 1) := by decide +kernel
theorem d4_27 : decode method_2_code 27 = .ok (.iconst 4, 1) := by decide +kernel
theorem d4_28 : decode method_2_code 28 = .ok (.iand, 1) := by decide +kernel
theorem d4_29 : decode method_2_code 29 = .ok (.ifCond .eq 9, 3) := by decide +kernel
theorem d4_32 : decode method_2_code 32 = .ok (.iload_n 1, 1) := by decide +kernel
theorem d4_33 : decode method_2_code 33 = .ok (.sipush 16516, 3) := by decide +kernel
theorem d4_36 : decode method_2_code 36 = .ok (.ixor, 1) := by decide +kernel
theorem d4_37 : decode method_2_code 37 = .ok (.istore_n 1, 1) := by decide +kernel
theorem d4_38 : decode method_2_code 38 = .ok (.iload_n 0, 1) := by decide +kernel
theorem d4_39 : decode method_2_code 39 = .ok (.bipush 8, 2) := by decide +kernel
theorem d4_41 : decode method_2_code 41 = .ok (.iand, 1) := by decide +kernel
theorem d4_42 : decode method_2_code 42 = .ok (.ifCond .eq 8, 3) := by decide +kernel
theorem d4_45 : decode method_2_code 45 = .ok (.iload_n 1, 1) := by decide +kernel
theorem d4_46 : decode method_2_code 46 = .ok (.ldc 7, 2) := by decide +kernel
theorem d4_48 : decode method_2_code 48 = .ok (.ixor, 1) := by decide +kernel
theorem d4_49 : decode method_2_code 49 = .ok (.istore_n 1, 1) := by decide +kernel
theorem d4_50 : decode method_2_code 50 = .ok (.iload_n 0, 1) := by decide +kernel
theorem d4_51 : decode method_2_code 51 = .ok (.bipush 16, 2) := by decide +kernel
theorem d4_53 : decode method_2_code 53 = .ok (.iand, 1) := by decide +kernel
theorem d4_54 : decode method_2_code 54 = .ok (.ifCond .eq 9, 3) := by decide +kernel
theorem d4_57 : decode method_2_code 57 = .ok (.iload_n 1, 1) := by decide +kernel
theorem d4_58 : decode method_2_code 58 = .ok (.sipush 4657, 3) := by decide +kernel
theorem d4_61 : decode method_2_code 61 = .ok (.ixor, 1) := by decide +kernel
theorem d4_62 : decode method_2_code 62 = .ok (.istore_n 1, 1) := by decide +kernel
theorem d4_63 : decode method_2_code 63 = .ok (.iload_n 0, 1) := by decide +kernel
theorem d4_64 : decode method_2_code 64 = .ok (.bipush 32, 2) := by decide +kernel
theorem d4_66 : decode method_2_code 66 = .ok (.iand, 1) := by decide +kernel
theorem d4_67 : decode method_2_code 67 = .ok (.ifCond .eq 9, 3) := by decide +kernel
theorem d4_70 : decode method_2_code 70 = .ok (.iload_n 1, 1) := by decide +kernel
theorem d4_71 : decode method_2_code 71 = .ok (.sipush 9314, 3) := by decide +kernel
theorem d4_74 : decode method_2_code 74 = .ok (.ixor, 1) := by decide +kernel
theorem d4_75 : decode method_2_code 75 = .ok (.istore_n 1, 1) := by decide +kernel
theorem d4_76 : decode method_2_code 76 = .ok (.iload_n 0, 1) := by decide +kernel
theorem d4_77 : decode method_2_code 77 = .ok (.bipush 64, 2) := by decide +kernel
theorem d4_79 : decode method_2_code 79 = .ok (.iand, 1) := by decide +kernel
theorem d4_80 : decode method_2_code 80 = .ok (.ifCond .eq 9, 3) := by decide +kernel
theorem d4_83 : decode method_2_code 83 = .ok (.iload_n 1, 1) := by decide +kernel
theorem d4_84 : decode method_2_code 84 = .ok (.sipush 18628, 3) := by decide +kernel
theorem d4_87 : decode method_2_code 87 = .ok (.ixor, 1) := by decide +kernel
theorem d4_88 : decode method_2_code 88 = .ok (.istore_n 1, 1) := by decide +kernel
theorem d4_89 : decode method_2_code 89 = .ok (.iload_n 0, 1) := by decide +kernel
theorem d4_90 : decode method_2_code 90 = .ok (.sipush 128, 3) := by decide +kernel
theorem d4_93 : decode method_2_code 93 = .ok (.iand, 1) := by decide +kernel
theorem d4_94 : decode method_2_code 94 = .ok (.ifCond .eq 8, 3) := by decide +kernel
theorem d4_97 : decode method_2_code 97 = .ok (.iload_n 1, 1) := by decide +kernel
theorem d4_98 : decode method_2_code 98 = .ok (.ldc 8, 2) := by decide +kernel
theorem d4_100 : decode method_2_code 100 = .ok (.ixor, 1) := by decide +kernel
theorem d4_101 : decode method_2_code 101 = .ok (.istore_n 1, 1) := by decide +kernel
theorem d4_102 : decode method_2_code 102 = .ok (.iload_n 1, 1) := by decide +kernel
theorem d4_103 : decode method_2_code 103 = .ok (.ireturn, 1) := by decide +kernel
theorem pd_0 : parseMethodDescriptor "(I)I" = some ⟨[.int], some .int⟩ := by decide +kernel
theorem pd_1 : parseMethodDescriptor "([BII)I" = some ⟨[(.array .byte), .int, .int], some .int⟩ := by decide +kernel
theorem pd_2 : parseMethodDescriptor "(II)I" = some ⟨[.int, .int], some .int⟩ := by decide +kernel
def own_min (x y : Int32) : Int32 := if y < x then y else x
def own_tk (x r m k : Int32) : Int32 := if x &&& m = 0 then r else r ^^^ k
theorem tk_pos {x r m k : Int32} (q : x &&& m = 0) : own_tk x r m k = r := if_pos q
theorem tk_neg {x r m k : Int32} (q : ¬ x &&& m = 0) : own_tk x r m k = r ^^^ k := if_neg q
def own_t (x : Int32) : Int32 := (own_tk x (own_tk x (own_tk x (own_tk x (own_tk x (own_tk x (own_tk x (own_tk x 0 1 4129) 2 8258) 4 16516) 8 33032) 16 4657) 32 9314) 64 18628) 128 37256)
def own_st (c : Int32) : Int32 := if c &&& 32768 = 0 then (c <<< ((1 : Int32) &&& 31)) &&& 65535 else ((c <<< ((1 : Int32) &&& 31)) ^^^ 4129) &&& 65535
def own_it : Nat → Int32 → Int32
  | 0, c => c
  | n + 1, c => own_it n (own_st c)
def own_step (crc b : Int32) : Int32 := ((crc <<< ((8 : Int32) &&& 31)) &&& 65535) ^^^ own_t (((crc.toUInt32 >>> ((8 : Int32) &&& 31).toUInt32).toInt32 ^^^ b) &&& 255)
def own_crc (B : Nat → Int32) (o : Nat) : Nat → Int32
  | 0 => 0
  | k + 1 => own_step (own_crc B o k) (B (o + k) &&& 255)
/-! the plain law: eight shifts are one step by the table -/
def bF (c : BitVec 32) : BitVec 32 := ((c <<< 1) ^^^ (if c.getLsbD 15 then 4129#32 else 0#32)) &&& 65535#32
theorem bF_if (x y : Bool) (k : BitVec 32) : (if (x ^^ y) = true then k else 0#32) = (if x = true then k else 0#32) ^^^ (if y = true then k else 0#32) := by
  cases x <;> cases y <;> simp
theorem bF_xor (a c : BitVec 32) : bF (a ^^^ c) = bF a ^^^ bF c := by
  unfold bF
  rw [BitVec.getLsbD_xor, bF_if]
  apply BitVec.eq_of_getLsbD_eq
  intro i hi
  simp only [BitVec.getLsbD_and, BitVec.getLsbD_xor, BitVec.getLsbD_shiftLeft, hi]
  cases (if a.getLsbD 15 = true then 4129#32 else 0#32).getLsbD i <;> cases (if c.getLsbD 15 = true then 4129#32 else 0#32).getLsbD i <;> cases a.getLsbD (i - 1) <;> cases c.getLsbD (i - 1) <;> cases (65535#32).getLsbD i <;> by_cases h1 : i < 1 <;> simp [h1]
theorem own_tw (x : BitVec 32) : x &&& 32768#32 = 0#32 ↔ x.getLsbD 15 = false := by
  have e : (32768#32 : BitVec 32) = BitVec.twoPow 32 15 := by decide
  rw [e, BitVec.and_twoPow]
  cases x.getLsbD 15 <;> simp <;> decide
theorem own_st_b (c : Int32) : (own_st c).toBitVec = bF c.toBitVec := by
  have s1 : (c <<< ((1 : Int32) &&& 31)).toBitVec = c.toBitVec <<< 1 := by
    rw [Int32.toBitVec_shiftLeft, show (((1 : Int32) &&& 31).toBitVec.smod 32) = 1#32 from by decide]; rfl
  have q : (c &&& 32768 = 0) ↔ c.toBitVec.getLsbD 15 = false := by
    rw [← own_tw, ← Int32.toBitVec_inj, Int32.toBitVec_and]; rfl
  unfold own_st bF
  by_cases p : c &&& 32768 = 0
  · rw [if_pos p, q.mp p, Int32.toBitVec_and, s1]; simp
  · have p' : c.toBitVec.getLsbD 15 = true := by
      cases h : c.toBitVec.getLsbD 15 with
      | false => exact absurd (q.mpr h) p
      | true => rfl
    rw [if_neg p, p', Int32.toBitVec_and, Int32.toBitVec_xor, s1]; rfl
theorem own_st_xor (a c : Int32) : own_st (a ^^^ c) = own_st a ^^^ own_st c := by
  rw [← Int32.toBitVec_inj, Int32.toBitVec_xor, own_st_b, own_st_b, own_st_b, Int32.toBitVec_xor, bF_xor]
theorem own_it_xor : ∀ (n : Nat) (a c : Int32), own_it n (a ^^^ c) = own_it n a ^^^ own_it n c
  | 0, _, _ => rfl
  | n + 1, a, c => by rw [own_it, own_it, own_it, own_st_xor]; exact own_it_xor n _ _
set_option maxRecDepth 100000 in
theorem own_tabH : ∀ i : Fin 256, own_it 8 (Int32.ofNat i.val <<< ((8 : Int32) &&& 31)) = own_t (Int32.ofNat i.val) := by decide +kernel
set_option maxRecDepth 100000 in
theorem own_tabL : ∀ i : Fin 256, own_it 8 (Int32.ofNat i.val) = Int32.ofNat i.val <<< ((8 : Int32) &&& 31) := by decide +kernel
theorem own_small (x : Int32) : ∃ i : Fin 256, x &&& 255 = Int32.ofNat i.val := by
  have m := c_mask x 255 8 (by decide) (by decide)
  have e : ((2 ^ 8 : Nat) : Int) = 256 := rfl
  rw [e] at m
  refine ⟨⟨(x &&& 255).toNatClampNeg, by simp only [Int32.toNatClampNeg]; omega⟩, n32_of ?_⟩
  rw [Int32.lt_iff_toInt_lt, show (0 : Int32).toInt = 0 from rfl]; omega
theorem own_shl8 (x : Int32) : (x <<< ((8 : Int32) &&& 31)).toBitVec = x.toBitVec <<< 8 := by
  rw [Int32.toBitVec_shiftLeft, show (((8 : Int32) &&& 31).toBitVec.smod 32) = 8#32 from by decide]; rfl
theorem own_shr8 (x : Int32) : ((x.toUInt32 >>> ((8 : Int32) &&& 31).toUInt32).toInt32).toBitVec = x.toBitVec >>> 8 := by
  show (x.toUInt32 >>> ((8 : Int32) &&& 31).toUInt32).toBitVec = _
  rw [UInt32.toBitVec_shiftRight]; rfl
theorem own_c255 (i : Nat) : (255#32 : BitVec 32).getLsbD i = decide (i < 8) := by
  by_cases h : i < 32
  · have : ∀ i : Fin 32, (255#32 : BitVec 32).getLsbD i.val = decide (i.val < 8) := by decide
    exact this ⟨i, h⟩
  · rw [BitVec.getLsbD_of_ge _ _ (by omega)]; simp; omega
theorem own_c65535 (i : Nat) : (65535#32 : BitVec 32).getLsbD i = decide (i < 16) := by
  by_cases h : i < 32
  · have : ∀ i : Fin 32, (65535#32 : BitVec 32).getLsbD i.val = decide (i.val < 16) := by decide
    exact this ⟨i, h⟩
  · rw [BitVec.getLsbD_of_ge _ _ (by omega)]; simp; omega
theorem own_hi16 {x : BitVec 32} (h : x &&& 65535#32 = x) {i : Nat} (hi : 16 ≤ i) : x.getLsbD i = false := by
  rw [← h, BitVec.getLsbD_and, own_c65535, decide_eq_false (by omega), Bool.and_false]
theorem own_hi8 {x : BitVec 32} (h : x &&& 255#32 = x) {i : Nat} (hi : 8 ≤ i) : x.getLsbD i = false := by
  rw [← h, BitVec.getLsbD_and, own_c255, decide_eq_false (by omega), Bool.and_false]
theorem own_splitB (c b : BitVec 32) (hc : c &&& 65535#32 = c) (hb : b &&& 255#32 = b) : c ^^^ (b <<< 8) = ((((c >>> 8) ^^^ b) &&& 255#32) <<< 8) ^^^ (c &&& 255#32) := by
  apply BitVec.eq_of_getLsbD_eq
  intro i hi
  simp only [BitVec.getLsbD_xor, BitVec.getLsbD_shiftLeft, BitVec.getLsbD_and, BitVec.getLsbD_ushiftRight, own_c255]
  by_cases p : i < 8
  · simp [p]
  · by_cases q : i < 16
    · simp [p, q, show i - 8 < 8 by omega, show 8 + (i - 8) = i by omega, hi]
    · simp [p, show ¬ i - 8 < 8 by omega, own_hi16 hc (show 16 ≤ i by omega), own_hi8 hb (show 8 ≤ i - 8 by omega)]
theorem own_low (c : BitVec 32) : (c <<< 8) &&& 65535#32 = (c &&& 255#32) <<< 8 := by
  apply BitVec.eq_of_getLsbD_eq
  intro i hi
  simp only [BitVec.getLsbD_shiftLeft, BitVec.getLsbD_and, own_c255, own_c65535]
  by_cases p : i < 8
  · simp [p]
  · by_cases q : i < 16
    · simp [p, q, hi, show i - 8 < 8 by omega]
    · simp [p, q, show ¬ i - 8 < 8 by omega]
theorem own_key (crc b : Int32) (hc : crc &&& 65535 = crc) (hb : b &&& 255 = b) : own_it 8 (crc ^^^ (b <<< ((8 : Int32) &&& 31))) = own_step crc b := by
  have hc' : crc.toBitVec &&& 65535#32 = crc.toBitVec := by rw [← Int32.toBitVec_inj, Int32.toBitVec_and] at hc; exact hc
  have hb' : b.toBitVec &&& 255#32 = b.toBitVec := by rw [← Int32.toBitVec_inj, Int32.toBitVec_and] at hb; exact hb
  have e1 : crc ^^^ (b <<< ((8 : Int32) &&& 31)) = (((((crc.toUInt32 >>> ((8 : Int32) &&& 31).toUInt32).toInt32 ^^^ b) &&& 255) <<< ((8 : Int32) &&& 31))) ^^^ (crc &&& 255) := by
    rw [← Int32.toBitVec_inj, Int32.toBitVec_xor, Int32.toBitVec_xor, own_shl8, own_shl8, Int32.toBitVec_and, Int32.toBitVec_and, Int32.toBitVec_xor, own_shr8]
    exact own_splitB _ _ hc' hb'
  have e2 : (crc <<< ((8 : Int32) &&& 31)) &&& 65535 = (crc &&& 255) <<< ((8 : Int32) &&& 31) := by
    rw [← Int32.toBitVec_inj, Int32.toBitVec_and, own_shl8, own_shl8, Int32.toBitVec_and]
    exact own_low _
  rw [e1, own_it_xor, own_step, e2]
  obtain ⟨i, hi⟩ := own_small ((crc.toUInt32 >>> ((8 : Int32) &&& 31).toUInt32).toInt32 ^^^ b)
  obtain ⟨j, hj⟩ := own_small crc
  rw [hi, hj, own_tabH, own_tabL, Int32.xor_comm]
theorem own_st16 (c : Int32) : own_st c &&& 65535 = own_st c := by
  unfold own_st; split <;> rw [Int32.and_assoc] <;> rfl
theorem own_it16 : ∀ (n : Nat) (c : Int32), own_it (n + 1) c &&& 65535 = own_it (n + 1) c
  | 0, c => own_st16 c
  | n + 1, c => own_it16 n (own_st c)
theorem own_255 (x : Int32) : (x &&& 255) &&& 255 = x &&& 255 := by rw [Int32.and_assoc]; rfl
theorem own_crc16 (B : Nat → Int32) (o : Nat) : ∀ k, own_crc B o k &&& 65535 = own_crc B o k
  | 0 => (show (0 : Int32) &&& 65535 = 0 from by decide)
  | k + 1 => by rw [own_crc, ← own_key _ _ (own_crc16 B o k) (own_255 _)]; exact own_it16 7 _
def R_mt : Room := ({ frames := 0, cells := 0, slots := 0, locals := 0 } : Room)
set_option maxRecDepth 65536 in
set_option maxHeartbeats 40000000 in
theorem seg_t8 {l : Launch} {Z : State} {a0 : Array Value} (hw : ∀ d ∈ tables_1, d.before a0 Z = true) {w : Wk} {n0 : Nat} {h0 : Heap} {Y : State → Outcome → Prop} (x r V : Int32) (C : Cx w Z "com/example/motewire/motewire/io/TinyOsFramesChecksumPinLaw" method_2_code 2 (some .int) "t" R_mt n0 (fun r h => r = some (.int V) ∧ h0 = h) Y) (hr : r = V) :
    Go w l R_mt n0 Y h0 0 0 102 #[.val (.int x), .val (.int r)] [] := by
  refine g_iloadN C d4_102 (pc' := 103) rfl rfl ?_
  exact g_retI C rfl d4_103 ⟨by rw [hr], rfl⟩ (by decide) (by decide)
set_option maxRecDepth 65536 in
set_option maxHeartbeats 40000000 in
theorem seg_t7 {l : Launch} {Z : State} {a0 : Array Value} (hw : ∀ d ∈ tables_1, d.before a0 Z = true) {w : Wk} {n0 : Nat} {h0 : Heap} {Y : State → Outcome → Prop} (x r V : Int32) (C : Cx w Z "com/example/motewire/motewire/io/TinyOsFramesChecksumPinLaw" method_2_code 2 (some .int) "t" R_mt n0 (fun r h => r = some (.int V) ∧ h0 = h) Y) (hr : (own_tk x r 128 37256) = V) :
    Go w l R_mt n0 Y h0 0 0 89 #[.val (.int x), .val (.int r)] [] := by
  refine g_iloadN C d4_89 (pc' := 90) rfl rfl ?_
  refine g_sipush C (z := (128 : Int32)) d4_90 (pc' := 93) rfl rfl ?_
  refine g_iand C d4_93 (pc' := 94) rfl ?_
  refine g_if_eq C d4_94 (by decide) (pc' := 102) (by decide) (pcN := 97) rfl (fun q94 => ?_) (fun q94 => ?_)
  · exact seg_t8 (C := C) hw x r V (by rw [tk_pos q94] at hr; exact hr)
  · refine g_iloadN C d4_97 (pc' := 98) rfl rfl ?_
    refine g_ldcI C (hw _ (List.mem_of_getElem? (i := 18) rfl)) d4_98 (pc' := 100) rfl ?_
    refine g_ixor C d4_100 (pc' := 101) rfl ?_
    refine g_istoreN C d4_101 (pc' := 102) rfl (Ls' := #[.val (.int x), .val (.int (r ^^^ (37256 : Int32)))]) rfl ?_
    exact seg_t8 (C := C) hw x (r ^^^ (37256 : Int32)) V (by rw [tk_neg q94] at hr; exact hr)
set_option maxRecDepth 65536 in
set_option maxHeartbeats 40000000 in
theorem seg_t6 {l : Launch} {Z : State} {a0 : Array Value} (hw : ∀ d ∈ tables_1, d.before a0 Z = true) {w : Wk} {n0 : Nat} {h0 : Heap} {Y : State → Outcome → Prop} (x r V : Int32) (C : Cx w Z "com/example/motewire/motewire/io/TinyOsFramesChecksumPinLaw" method_2_code 2 (some .int) "t" R_mt n0 (fun r h => r = some (.int V) ∧ h0 = h) Y) (hr : (own_tk x (own_tk x r 64 18628) 128 37256) = V) :
    Go w l R_mt n0 Y h0 0 0 76 #[.val (.int x), .val (.int r)] [] := by
  refine g_iloadN C d4_76 (pc' := 77) rfl rfl ?_
  refine g_bipush C (z := (64 : Int32)) d4_77 (pc' := 79) rfl rfl ?_
  refine g_iand C d4_79 (pc' := 80) rfl ?_
  refine g_if_eq C d4_80 (by decide) (pc' := 89) (by decide) (pcN := 83) rfl (fun q80 => ?_) (fun q80 => ?_)
  · exact seg_t7 (C := C) hw x r V (by rw [tk_pos q80] at hr; exact hr)
  · refine g_iloadN C d4_83 (pc' := 84) rfl rfl ?_
    refine g_sipush C (z := (18628 : Int32)) d4_84 (pc' := 87) rfl rfl ?_
    refine g_ixor C d4_87 (pc' := 88) rfl ?_
    refine g_istoreN C d4_88 (pc' := 89) rfl (Ls' := #[.val (.int x), .val (.int (r ^^^ (18628 : Int32)))]) rfl ?_
    exact seg_t7 (C := C) hw x (r ^^^ (18628 : Int32)) V (by rw [tk_neg q80] at hr; exact hr)
set_option maxRecDepth 65536 in
set_option maxHeartbeats 40000000 in
theorem seg_t5 {l : Launch} {Z : State} {a0 : Array Value} (hw : ∀ d ∈ tables_1, d.before a0 Z = true) {w : Wk} {n0 : Nat} {h0 : Heap} {Y : State → Outcome → Prop} (x r V : Int32) (C : Cx w Z "com/example/motewire/motewire/io/TinyOsFramesChecksumPinLaw" method_2_code 2 (some .int) "t" R_mt n0 (fun r h => r = some (.int V) ∧ h0 = h) Y) (hr : (own_tk x (own_tk x (own_tk x r 32 9314) 64 18628) 128 37256) = V) :
    Go w l R_mt n0 Y h0 0 0 63 #[.val (.int x), .val (.int r)] [] := by
  refine g_iloadN C d4_63 (pc' := 64) rfl rfl ?_
  refine g_bipush C (z := (32 : Int32)) d4_64 (pc' := 66) rfl rfl ?_
  refine g_iand C d4_66 (pc' := 67) rfl ?_
  refine g_if_eq C d4_67 (by decide) (pc' := 76) (by decide) (pcN := 70) rfl (fun q67 => ?_) (fun q67 => ?_)
  · exact seg_t6 (C := C) hw x r V (by rw [tk_pos q67] at hr; exact hr)
  · refine g_iloadN C d4_70 (pc' := 71) rfl rfl ?_
    refine g_sipush C (z := (9314 : Int32)) d4_71 (pc' := 74) rfl rfl ?_
    refine g_ixor C d4_74 (pc' := 75) rfl ?_
    refine g_istoreN C d4_75 (pc' := 76) rfl (Ls' := #[.val (.int x), .val (.int (r ^^^ (9314 : Int32)))]) rfl ?_
    exact seg_t6 (C := C) hw x (r ^^^ (9314 : Int32)) V (by rw [tk_neg q67] at hr; exact hr)
set_option maxRecDepth 65536 in
set_option maxHeartbeats 40000000 in
theorem seg_t4 {l : Launch} {Z : State} {a0 : Array Value} (hw : ∀ d ∈ tables_1, d.before a0 Z = true) {w : Wk} {n0 : Nat} {h0 : Heap} {Y : State → Outcome → Prop} (x r V : Int32) (C : Cx w Z "com/example/motewire/motewire/io/TinyOsFramesChecksumPinLaw" method_2_code 2 (some .int) "t" R_mt n0 (fun r h => r = some (.int V) ∧ h0 = h) Y) (hr : (own_tk x (own_tk x (own_tk x (own_tk x r 16 4657) 32 9314) 64 18628) 128 37256) = V) :
    Go w l R_mt n0 Y h0 0 0 50 #[.val (.int x), .val (.int r)] [] := by
  refine g_iloadN C d4_50 (pc' := 51) rfl rfl ?_
  refine g_bipush C (z := (16 : Int32)) d4_51 (pc' := 53) rfl rfl ?_
  refine g_iand C d4_53 (pc' := 54) rfl ?_
  refine g_if_eq C d4_54 (by decide) (pc' := 63) (by decide) (pcN := 57) rfl (fun q54 => ?_) (fun q54 => ?_)
  · exact seg_t5 (C := C) hw x r V (by rw [tk_pos q54] at hr; exact hr)
  · refine g_iloadN C d4_57 (pc' := 58) rfl rfl ?_
    refine g_sipush C (z := (4657 : Int32)) d4_58 (pc' := 61) rfl rfl ?_
    refine g_ixor C d4_61 (pc' := 62) rfl ?_
    refine g_istoreN C d4_62 (pc' := 63) rfl (Ls' := #[.val (.int x), .val (.int (r ^^^ (4657 : Int32)))]) rfl ?_
    exact seg_t5 (C := C) hw x (r ^^^ (4657 : Int32)) V (by rw [tk_neg q54] at hr; exact hr)
set_option maxRecDepth 65536 in
set_option maxHeartbeats 40000000 in
theorem seg_t3 {l : Launch} {Z : State} {a0 : Array Value} (hw : ∀ d ∈ tables_1, d.before a0 Z = true) {w : Wk} {n0 : Nat} {h0 : Heap} {Y : State → Outcome → Prop} (x r V : Int32) (C : Cx w Z "com/example/motewire/motewire/io/TinyOsFramesChecksumPinLaw" method_2_code 2 (some .int) "t" R_mt n0 (fun r h => r = some (.int V) ∧ h0 = h) Y) (hr : (own_tk x (own_tk x (own_tk x (own_tk x (own_tk x r 8 33032) 16 4657) 32 9314) 64 18628) 128 37256) = V) :
    Go w l R_mt n0 Y h0 0 0 38 #[.val (.int x), .val (.int r)] [] := by
  refine g_iloadN C d4_38 (pc' := 39) rfl rfl ?_
  refine g_bipush C (z := (8 : Int32)) d4_39 (pc' := 41) rfl rfl ?_
  refine g_iand C d4_41 (pc' := 42) rfl ?_
  refine g_if_eq C d4_42 (by decide) (pc' := 50) (by decide) (pcN := 45) rfl (fun q42 => ?_) (fun q42 => ?_)
  · exact seg_t4 (C := C) hw x r V (by rw [tk_pos q42] at hr; exact hr)
  · refine g_iloadN C d4_45 (pc' := 46) rfl rfl ?_
    refine g_ldcI C (hw _ (List.mem_of_getElem? (i := 17) rfl)) d4_46 (pc' := 48) rfl ?_
    refine g_ixor C d4_48 (pc' := 49) rfl ?_
    refine g_istoreN C d4_49 (pc' := 50) rfl (Ls' := #[.val (.int x), .val (.int (r ^^^ (33032 : Int32)))]) rfl ?_
    exact seg_t4 (C := C) hw x (r ^^^ (33032 : Int32)) V (by rw [tk_neg q42] at hr; exact hr)
set_option maxRecDepth 65536 in
set_option maxHeartbeats 40000000 in
theorem seg_t2 {l : Launch} {Z : State} {a0 : Array Value} (hw : ∀ d ∈ tables_1, d.before a0 Z = true) {w : Wk} {n0 : Nat} {h0 : Heap} {Y : State → Outcome → Prop} (x r V : Int32) (C : Cx w Z "com/example/motewire/motewire/io/TinyOsFramesChecksumPinLaw" method_2_code 2 (some .int) "t" R_mt n0 (fun r h => r = some (.int V) ∧ h0 = h) Y) (hr : (own_tk x (own_tk x (own_tk x (own_tk x (own_tk x (own_tk x r 4 16516) 8 33032) 16 4657) 32 9314) 64 18628) 128 37256) = V) :
    Go w l R_mt n0 Y h0 0 0 26 #[.val (.int x), .val (.int r)] [] := by
  refine g_iloadN C d4_26 (pc' := 27) rfl rfl ?_
  refine g_iconst C (z := (4 : Int32)) d4_27 (pc' := 28) rfl rfl ?_
  refine g_iand C d4_28 (pc' := 29) rfl ?_
  refine g_if_eq C d4_29 (by decide) (pc' := 38) (by decide) (pcN := 32) rfl (fun q29 => ?_) (fun q29 => ?_)
  · exact seg_t3 (C := C) hw x r V (by rw [tk_pos q29] at hr; exact hr)
  · refine g_iloadN C d4_32 (pc' := 33) rfl rfl ?_
    refine g_sipush C (z := (16516 : Int32)) d4_33 (pc' := 36) rfl rfl ?_
    refine g_ixor C d4_36 (pc' := 37) rfl ?_
    refine g_istoreN C d4_37 (pc' := 38) rfl (Ls' := #[.val (.int x), .val (.int (r ^^^ (16516 : Int32)))]) rfl ?_
    exact seg_t3 (C := C) hw x (r ^^^ (16516 : Int32)) V (by rw [tk_neg q29] at hr; exact hr)
set_option maxRecDepth 65536 in
set_option maxHeartbeats 40000000 in
theorem seg_t1 {l : Launch} {Z : State} {a0 : Array Value} (hw : ∀ d ∈ tables_1, d.before a0 Z = true) {w : Wk} {n0 : Nat} {h0 : Heap} {Y : State → Outcome → Prop} (x r V : Int32) (C : Cx w Z "com/example/motewire/motewire/io/TinyOsFramesChecksumPinLaw" method_2_code 2 (some .int) "t" R_mt n0 (fun r h => r = some (.int V) ∧ h0 = h) Y) (hr : (own_tk x (own_tk x (own_tk x (own_tk x (own_tk x (own_tk x (own_tk x r 2 8258) 4 16516) 8 33032) 16 4657) 32 9314) 64 18628) 128 37256) = V) :
    Go w l R_mt n0 Y h0 0 0 14 #[.val (.int x), .val (.int r)] [] := by
  refine g_iloadN C d4_14 (pc' := 15) rfl rfl ?_
  refine g_iconst C (z := (2 : Int32)) d4_15 (pc' := 16) rfl rfl ?_
  refine g_iand C d4_16 (pc' := 17) rfl ?_
  refine g_if_eq C d4_17 (by decide) (pc' := 26) (by decide) (pcN := 20) rfl (fun q17 => ?_) (fun q17 => ?_)
  · exact seg_t2 (C := C) hw x r V (by rw [tk_pos q17] at hr; exact hr)
  · refine g_iloadN C d4_20 (pc' := 21) rfl rfl ?_
    refine g_sipush C (z := (8258 : Int32)) d4_21 (pc' := 24) rfl rfl ?_
    refine g_ixor C d4_24 (pc' := 25) rfl ?_
    refine g_istoreN C d4_25 (pc' := 26) rfl (Ls' := #[.val (.int x), .val (.int (r ^^^ (8258 : Int32)))]) rfl ?_
    exact seg_t2 (C := C) hw x (r ^^^ (8258 : Int32)) V (by rw [tk_neg q17] at hr; exact hr)
set_option maxRecDepth 65536 in
set_option maxHeartbeats 40000000 in
theorem seg_t0 {l : Launch} {Z : State} {a0 : Array Value} (hw : ∀ d ∈ tables_1, d.before a0 Z = true) {w : Wk} {n0 : Nat} {h0 : Heap} {Y : State → Outcome → Prop} (x r V : Int32) (C : Cx w Z "com/example/motewire/motewire/io/TinyOsFramesChecksumPinLaw" method_2_code 2 (some .int) "t" R_mt n0 (fun r h => r = some (.int V) ∧ h0 = h) Y) (hr : (own_tk x (own_tk x (own_tk x (own_tk x (own_tk x (own_tk x (own_tk x (own_tk x r 1 4129) 2 8258) 4 16516) 8 33032) 16 4657) 32 9314) 64 18628) 128 37256) = V) :
    Go w l R_mt n0 Y h0 0 0 2 #[.val (.int x), .val (.int r)] [] := by
  refine g_iloadN C d4_2 (pc' := 3) rfl rfl ?_
  refine g_iconst C (z := (1 : Int32)) d4_3 (pc' := 4) rfl rfl ?_
  refine g_iand C d4_4 (pc' := 5) rfl ?_
  refine g_if_eq C d4_5 (by decide) (pc' := 14) (by decide) (pcN := 8) rfl (fun q5 => ?_) (fun q5 => ?_)
  · exact seg_t1 (C := C) hw x r V (by rw [tk_pos q5] at hr; exact hr)
  · refine g_iloadN C d4_8 (pc' := 9) rfl rfl ?_
    refine g_sipush C (z := (4129 : Int32)) d4_9 (pc' := 12) rfl rfl ?_
    refine g_ixor C d4_12 (pc' := 13) rfl ?_
    refine g_istoreN C d4_13 (pc' := 14) rfl (Ls' := #[.val (.int x), .val (.int (r ^^^ (4129 : Int32)))]) rfl ?_
    exact seg_t1 (C := C) hw x (r ^^^ (4129 : Int32)) V (by rw [tk_neg q5] at hr; exact hr)
set_option maxRecDepth 65536 in
set_option maxHeartbeats 40000000 in
theorem mt {l : Launch} {Z : State} {a0 : Array Value} (hw : ∀ d ∈ tables_1, d.before a0 Z = true) {h0 : Heap} {n0 : Nat} (x : Int32)  :
    Met l Z (⟨"com/example/motewire/motewire/io/TinyOsFramesChecksumPinLaw", "t", "(I)I"⟩ : MethodName) method_2_code 2 (some .int) R_mt n0 h0 #[(.int x)] (fun r h => r = some (.int (own_t x)) ∧ h0 = h) := by
  refine Met.intro (plainFor_of_name (by first | (simp [plainName, overriddenIn, x]; done) | decide +kernel)) (fun mM => (show entryFrame mM #[(.int x)] 2 = mkF mM 0 #[.val (.int x), .unset] [] from by first | rfl | (simp [entryFrame, mkF, argsToLocals, Value.category]; done))) (fun w Y C => ?_)
  refine g_iconst C (z := (0 : Int32)) d4_0 (pc' := 1) rfl rfl ?_
  refine g_istoreN C d4_1 (pc' := 2) rfl (Ls' := #[.val (.int x), .val (.int (0 : Int32))]) rfl ?_
  exact seg_t0 (C := C) hw x 0 _ rfl
def R_m3 : Room := ({ frames := 1, cells := 0, slots := 0, locals := 14 } : Room)
set_option maxRecDepth 65536 in
set_option maxHeartbeats 40000000 in
theorem m3 {l : Launch} {Z : State} {a0 : Array Value} (hw : ∀ d ∈ tables_1, d.before a0 Z = true) {h0 : Heap} {n0 : Nat} (p b : Int32)  :
    Met l Z (⟨"com/example/motewire/motewire/io/TinyOsFramesChecksumPinLaw", "step", "(II)I"⟩ : MethodName) method_3_code 2 (some .int) R_m3 n0 h0 #[(.int p), (.int b)] (fun r h => r = some (.int (own_step p b)) ∧ h0 = h) := by
  refine Met.intro (plainFor_of_name (by first | (simp [plainName, overriddenIn, x]; done) | decide +kernel)) (fun mM => (show entryFrame mM #[(.int p), (.int b)] 2 = mkF mM 0 #[.val (.int p), .val (.int b)] [] from by first | rfl | (simp [entryFrame, mkF, argsToLocals, Value.category]; done))) (fun w Y C => ?_)
  refine g_iloadN C d3_0 (pc' := 1) rfl rfl ?_
  refine g_bipush C (z := (8 : Int32)) d3_1 (pc' := 3) rfl rfl ?_
  refine g_ishl C d3_3 (pc' := 4) rfl ?_
  refine g_ldcI C (hw _ (List.mem_of_getElem? (i := 13) rfl)) d3_4 (pc' := 6) rfl ?_
  refine g_iand C d3_6 (pc' := 7) rfl ?_
  refine g_iloadN C d3_7 (pc' := 8) rfl rfl ?_
  refine g_bipush C (z := (8 : Int32)) d3_8 (pc' := 10) rfl rfl ?_
  refine g_iushr C d3_10 (pc' := 11) rfl ?_
  refine g_iloadN C d3_11 (pc' := 12) rfl rfl ?_
  refine g_ixor C d3_12 (pc' := 13) rfl ?_
  refine g_sipush C (z := (255 : Int32)) d3_13 (pc' := 16) rfl rfl ?_
  refine g_iand C d3_16 (pc' := 17) rfl ?_
  refine g_static (rm := R_mt) C (y := (⟨"com/example/motewire/motewire/io/TinyOsFramesChecksumPinLaw", "t", "(I)I"⟩ : MethodName)) (hw _ (List.mem_of_getElem? (i := 14) rfl)) (hw _ (List.mem_of_getElem? (i := 15) rfl)) (hw _ (List.mem_of_getElem? (i := 11) rfl)) (hw _ (List.mem_of_getElem? (i := 16) rfl)) (by decide) d3_17 (pc' := 20) rfl (argsL := [(.int ((((p.toUInt32 >>> ((8 : Int32) &&& 31).toUInt32).toInt32) ^^^ b) &&& (255 : Int32)))]) (rest := [(.int ((p <<< ((8 : Int32) &&& 31)) &&& (65535 : Int32)))]) (lenOf pd_0 rfl) rfl (W := 1) (Nat.le_of_eq rfl) rfl (fun hn9 => Met.back (rm := R_mt) (mt hw ((((p.toUInt32 >>> ((8 : Int32) &&& 31).toUInt32).toInt32) ^^^ b) &&& (255 : Int32))) hn9 C.hZ (hw _ (List.mem_of_getElem? (i := 16) rfl)) (hw _ (List.mem_of_getElem? (i := 11) rfl)) (by decide) (by decide)) (k' := 0) (n' := 0) rfl rfl (by decide) (by decide) ?_
  rintro _ _ ⟨rfl, rfl⟩
  show Go w l _ n0 _ h0 0 0 20 #[.val (.int p), .val (.int b)] [(.int (own_t ((((p.toUInt32 >>> ((8 : Int32) &&& 31).toUInt32).toInt32) ^^^ b) &&& (255 : Int32)))), (.int ((p <<< ((8 : Int32) &&& 31)) &&& (65535 : Int32)))]
  refine g_ixor C d3_20 (pc' := 21) rfl ?_
  exact g_retI C rfl d3_21 ⟨rfl, rfl⟩ (by decide) (by decide)
def R_m1 : Room := ({ frames := 0, cells := 0, slots := 0, locals := 0 } : Room)
set_option maxRecDepth 65536 in
set_option maxHeartbeats 40000000 in
theorem m1 {l : Launch} {Z : State} {a0 : Array Value} (hw : ∀ d ∈ tables_1, d.before a0 Z = true) {h0 : Heap} {n0 : Nat} (x y : Int32)  :
    Met l Z (⟨"java/lang/Math", "min", "(II)I"⟩ : MethodName) jdk_29_method_69_code 2 (some .int) R_m1 n0 h0 #[(.int x), (.int y)] (fun r h => r = some (.int (own_min x y)) ∧ h0 = h) := by
  refine Met.intro (Jvm.Free.JP.mathPlain rfl (by decide +kernel)) (fun mM => (show entryFrame mM #[(.int x), (.int y)] 2 = mkF mM 0 #[.val (.int x), .val (.int y)] [] from by first | rfl | (simp [entryFrame, mkF, argsToLocals, Value.category]; done))) (fun w Y C => ?_)
  refine g_iloadN C d1_0 (pc' := 1) rfl rfl ?_
  refine g_iloadN C d1_1 (pc' := 2) rfl rfl ?_
  refine g_icmp_gt C d1_2 (by decide) (pc' := 9) (by decide) (pcN := 5) rfl (fun q2 => ?_) (fun q2 => ?_)
  · refine g_iloadN C d1_9 (pc' := 10) rfl rfl ?_
    exact g_retI C rfl d1_10 ⟨by rw [own_min, if_pos q2], rfl⟩ (by decide) (by decide)
  · refine g_iloadN C d1_5 (pc' := 6) rfl rfl ?_
    refine g_goto C d1_6 (by decide) (pc' := 10) (by decide) ?_
    exact g_retI C rfl d1_10 ⟨by rw [own_min, if_neg q2], rfl⟩ (by decide) (by decide)
def R_mc : Room := ({ frames := 0, cells := 0, slots := 0, locals := 0 } : Room)
set_option maxRecDepth 65536 in
set_option maxHeartbeats 40000000 in
theorem own_inner {l : Launch} {Z : State} {a0 : Array Value} (hw : ∀ d ∈ tables_1, d.before a0 Z = true) {w : Wk} {n0 : Nat} {h0 : Heap} {Q : Option Value → Heap → Prop} {Y : State → Outcome → Prop} (a : Addr) (x1 x2 y V : Int32) (C : Cx w Z "com/example/motewire/motewire/io/TinyOsFrames" prog_29_method_5_code 6 (some .int) "checksum" R_mc n0 (Q) Y) (K : Go w l R_mc n0 Y h0 0 0 71 #[.val (.ref a), .val (.int x1), .val (.int x2), .val (.int V), .val (.int y), .val (.int (Int32.ofNat 8))] []) :
    ∀ (n j : Nat) (crc : Int32), j + n = 8 → own_it n crc = V → Go w l R_mc n0 Y h0 0 0 30 #[.val (.ref a), .val (.int x1), .val (.int x2), .val (.int crc), .val (.int y), .val (.int (Int32.ofNat j))] [] := by
  intro n
  induction n with
  | zero =>
    intro j crc hj hS
    obtain rfl : j = 8 := by omega
    obtain rfl : crc = V := hS
    refine g_iload C d2_30 (pc' := 32) rfl rfl ?_
    refine g_bipush C (z := (8 : Int32)) d2_32 (pc' := 34) rfl rfl ?_
    refine g_icmp_ge C d2_34 (by decide) (pc' := 71) (by decide) (pcN := 37) rfl (fun _ => ?_) (fun q => absurd q (by decide))
    exact K
  | succ n ih =>
    intro j crc hj hS
    refine g_iload C d2_30 (pc' := 32) rfl rfl ?_
    refine g_bipush C (z := (8 : Int32)) d2_32 (pc' := 34) rfl rfl ?_
    refine g_icmp_ge C d2_34 (by decide) (pc' := 71) (by decide) (pcN := 37) rfl (fun q => absurd (n32_lt (i := j) (n := 8) (by omega) (by omega)) q) (fun _ => ?_)
    refine g_iloadN C d2_37 (pc' := 38) rfl rfl ?_
    refine g_ldcI C (hw _ (List.mem_of_getElem? (i := 19) rfl)) d2_38 (pc' := 40) rfl ?_
    refine g_iand C d2_40 (pc' := 41) rfl ?_
    refine g_if_eq C d2_41 (by decide) (pc' := 58) (by decide) (pcN := 44) rfl (fun q41 => ?_) (fun q41 => ?_)
    · refine g_iloadN C d2_58 (pc' := 59) rfl rfl ?_
      refine g_iconst C (z := (1 : Int32)) d2_59 (pc' := 60) rfl rfl ?_
      refine g_ishl C d2_60 (pc' := 61) rfl ?_
      refine g_ldcI C (hw _ (List.mem_of_getElem? (i := 20) rfl)) d2_61 (pc' := 63) rfl ?_
      refine g_iand C d2_63 (pc' := 64) rfl ?_
      refine g_istoreN C d2_64 (pc' := 65) rfl (Ls' := #[.val (.ref a), .val (.int x1), .val (.int x2), .val (.int ((crc <<< ((1 : Int32) &&& 31)) &&& (65535 : Int32))), .val (.int y), .val (.int (Int32.ofNat j))]) rfl ?_
      refine g_iinc C d2_65 (pc' := 68) rfl rfl (z := ((Int32.ofNat j) + (1 : Int32))) rfl (Ls' := #[.val (.ref a), .val (.int x1), .val (.int x2), .val (.int ((crc <<< ((1 : Int32) &&& 31)) &&& (65535 : Int32))), .val (.int y), .val (.int ((Int32.ofNat j) + (1 : Int32)))]) rfl ?_
      refine g_goto C d2_68 (by decide) (pc' := 30) (by decide) ?_
      exact by rw [n32_succ]; exact ih (j + 1) ((crc <<< ((1 : Int32) &&& 31)) &&& (65535 : Int32)) (by omega) (by rw [← hS, own_it, own_st, if_pos q41])
    · refine g_iloadN C d2_44 (pc' := 45) rfl rfl ?_
      refine g_iconst C (z := (1 : Int32)) d2_45 (pc' := 46) rfl rfl ?_
      refine g_ishl C d2_46 (pc' := 47) rfl ?_
      refine g_sipush C (z := (4129 : Int32)) d2_47 (pc' := 50) rfl rfl ?_
      refine g_ixor C d2_50 (pc' := 51) rfl ?_
      refine g_ldcI C (hw _ (List.mem_of_getElem? (i := 20) rfl)) d2_51 (pc' := 53) rfl ?_
      refine g_iand C d2_53 (pc' := 54) rfl ?_
      refine g_istoreN C d2_54 (pc' := 55) rfl (Ls' := #[.val (.ref a), .val (.int x1), .val (.int x2), .val (.int (((crc <<< ((1 : Int32) &&& 31)) ^^^ (4129 : Int32)) &&& (65535 : Int32))), .val (.int y), .val (.int (Int32.ofNat j))]) rfl ?_
      refine g_goto C d2_55 (by decide) (pc' := 65) (by decide) ?_
      refine g_iinc C d2_65 (pc' := 68) rfl rfl (z := ((Int32.ofNat j) + (1 : Int32))) rfl (Ls' := #[.val (.ref a), .val (.int x1), .val (.int x2), .val (.int (((crc <<< ((1 : Int32) &&& 31)) ^^^ (4129 : Int32)) &&& (65535 : Int32))), .val (.int y), .val (.int ((Int32.ofNat j) + (1 : Int32)))]) rfl ?_
      refine g_goto C d2_68 (by decide) (pc' := 30) (by decide) ?_
      exact by rw [n32_succ]; exact ih (j + 1) (((crc <<< ((1 : Int32) &&& 31)) ^^^ (4129 : Int32)) &&& (65535 : Int32)) (by omega) (by rw [← hS, own_it, own_st, if_neg q41])
theorem own_store5 {x0 x1 x2 x3 x4 s5 : Slot} {v : Int32} (hs : One s5) (h4 : ∃ u : Value, x4 = .val u ∧ u.category = 1) : storeLocals #[x0, x1, x2, x3, x4, s5] 5 (.int v) = some #[x0, x1, x2, x3, x4, .val (.int v)] := by
  obtain ⟨u, rfl, hu⟩ := h4
  rcases hs with rfl | ⟨q, rfl, hq⟩
  · cases u <;> first | rfl | (simp [Value.category] at hu)
  · cases q <;> first | (simp [Value.category] at hq; done) | (cases u <;> first | rfl | (simp [Value.category] at hu; done))
set_option maxRecDepth 65536 in
set_option maxHeartbeats 40000000 in
theorem own_outer {l : Launch} {Z : State} {a0 : Array Value} (hw : ∀ d ∈ tables_1, d.before a0 Z = true) {w : Wk} {n0 : Nat} {h0 : Heap} {Y : State → Outcome → Prop} (a : Addr) (o m : Nat) (B : Nat → Int32) (C : Cx w Z "com/example/motewire/motewire/io/TinyOsFrames" prog_29_method_5_code 6 (some .int) "checksum" R_mc n0 (fun r h => r = some (.int (own_crc B o m)) ∧ h0 = h) Y) (A : Arf Z h0 a "[B" .byte 5 (fun j => .int (B j))) (hm : o + m ≤ 5) :
    ∀ (n i : Nat) (s5 : Slot), One s5 → i + n = m → Go w l R_mc n0 Y h0 0 0 5 #[.val (.ref a), .val (.int (Int32.ofNat o)), .val (.int (Int32.ofNat m)), .val (.int (own_crc B o i)), .val (.int (Int32.ofNat (o + i))), s5] [] := by
  intro n
  induction n with
  | zero =>
    intro i s5 hs hi
    refine g_iload C d2_5 (pc' := 7) rfl rfl ?_
    refine g_iloadN C d2_7 (pc' := 8) rfl rfl ?_
    refine g_iloadN C d2_8 (pc' := 9) rfl rfl ?_
    refine g_iadd C d2_9 (pc' := 10) rfl ?_
    refine g_icmp_ge C d2_10 (by decide) (pc' := 77) (by decide) (pcN := 13) rfl (fun _ => ?_) (fun q => absurd (by rwa [← Int32.ofNat_add] at q) (n32_ge (i := o + i) (n := o + m) (by omega) (by omega)))
    refine g_iloadN C d2_77 (pc' := 78) rfl rfl ?_
    exact g_retI C rfl d2_78 ⟨by rw [show i = m by omega], rfl⟩ (by decide) (by decide)
  | succ n ih =>
    intro i s5 hs hi
    refine g_iload C d2_5 (pc' := 7) rfl rfl ?_
    refine g_iloadN C d2_7 (pc' := 8) rfl rfl ?_
    refine g_iloadN C d2_8 (pc' := 9) rfl rfl ?_
    refine g_iadd C d2_9 (pc' := 10) rfl ?_
    refine g_icmp_ge C d2_10 (by decide) (pc' := 77) (by decide) (pcN := 13) rfl (fun q => absurd (by rw [← Int32.ofNat_add]; exact n32_lt (by omega) (by omega)) q) (fun _ => ?_)
    refine g_iloadN C d2_13 (pc' := 14) rfl rfl ?_
    refine g_aloadN C d2_14 (pc' := 15) rfl rfl rfl ?_
    refine g_iload C d2_15 (pc' := 17) rfl rfl ?_
    refine g_baload C (v := (.int (B (o + i)))) A (n32_nn (by omega)) (n32_lt (n := 5) (by omega) (by omega)) (by show Value.int (B _) = _; rw [n32_nat (by omega)]) d2_17 (pc' := 18) rfl ?_
    refine g_sipush C (z := (255 : Int32)) d2_18 (pc' := 21) rfl rfl ?_
    refine g_iand C d2_21 (pc' := 22) rfl ?_
    refine g_bipush C (z := (8 : Int32)) d2_22 (pc' := 24) rfl rfl ?_
    refine g_ishl C d2_24 (pc' := 25) rfl ?_
    refine g_ixor C d2_25 (pc' := 26) rfl ?_
    refine g_istoreN C d2_26 (pc' := 27) rfl (Ls' := #[.val (.ref a), .val (.int (Int32.ofNat o)), .val (.int (Int32.ofNat m)), .val (.int ((own_crc B o i) ^^^ (((B (o + i)) &&& (255 : Int32)) <<< ((8 : Int32) &&& 31)))), .val (.int (Int32.ofNat (o + i))), s5]) rfl ?_
    refine g_iconst C (z := (0 : Int32)) d2_27 (pc' := 28) rfl rfl ?_
    refine g_istore C d2_28 (pc' := 30) rfl (Ls' := #[.val (.ref a), .val (.int (Int32.ofNat o)), .val (.int (Int32.ofNat m)), .val (.int ((own_crc B o i) ^^^ (((B (o + i)) &&& (255 : Int32)) <<< ((8 : Int32) &&& 31)))), .val (.int (Int32.ofNat (o + i))), .val (.int (0 : Int32))]) (own_store5 hs ⟨_, rfl, rfl⟩) ?_
    refine own_inner (C := C) hw a (Int32.ofNat o) (Int32.ofNat m) (Int32.ofNat (o + i)) (own_crc B o (i + 1)) (?_) 8 0 ((own_crc B o i) ^^^ (((B (o + i)) &&& (255 : Int32)) <<< ((8 : Int32) &&& 31))) (by omega) (own_key _ _ (own_crc16 B o i) (own_255 _))
    refine g_iinc C d2_71 (pc' := 74) rfl rfl (z := ((Int32.ofNat (o + i)) + (1 : Int32))) rfl (Ls' := #[.val (.ref a), .val (.int (Int32.ofNat o)), .val (.int (Int32.ofNat m)), .val (.int (own_crc B o (i + 1))), .val (.int ((Int32.ofNat (o + i)) + (1 : Int32))), .val (.int (Int32.ofNat 8))]) rfl ?_
    refine g_goto C d2_74 (by decide) (pc' := 5) (by decide) ?_
    exact by rw [n32_succ]; exact ih (i + 1) _ (One.val rfl) (by omega)
set_option maxRecDepth 65536 in
set_option maxHeartbeats 40000000 in
theorem mc {l : Launch} {Z : State} {a0 : Array Value} (hw : ∀ d ∈ tables_1, d.before a0 Z = true) {h0 : Heap} {n0 : Nat} (a : Addr) (o m : Nat) (B : Nat → Int32) (A : Arf Z h0 a "[B" .byte 5 (fun j => .int (B j))) (hm : o + m ≤ 5) :
    Met l Z (⟨"com/example/motewire/motewire/io/TinyOsFrames", "checksum", "([BII)I"⟩ : MethodName) prog_29_method_5_code 6 (some .int) R_mc n0 h0 #[(.ref a), (.int (Int32.ofNat o)), (.int (Int32.ofNat m))] (fun r h => r = some (.int (own_crc B o m)) ∧ h0 = h) := by
  refine Met.intro (plainFor_of_name (by first | (simp [plainName, overriddenIn, x]; done) | decide +kernel)) (fun mM => (show entryFrame mM #[(.ref a), (.int (Int32.ofNat o)), (.int (Int32.ofNat m))] 6 = mkF mM 0 #[.val (.ref a), .val (.int (Int32.ofNat o)), .val (.int (Int32.ofNat m)), .unset, .unset, .unset] [] from by first | rfl | (simp [entryFrame, mkF, argsToLocals, Value.category]; done))) (fun w Y C => ?_)
  refine g_iconst C (z := (0 : Int32)) d2_0 (pc' := 1) rfl rfl ?_
  refine g_istoreN C d2_1 (pc' := 2) rfl (Ls' := #[.val (.ref a), .val (.int (Int32.ofNat o)), .val (.int (Int32.ofNat m)), .val (.int (0 : Int32)), .unset, .unset]) rfl ?_
  refine g_iloadN C d2_2 (pc' := 3) rfl rfl ?_
  refine g_istore C d2_3 (pc' := 5) rfl (Ls' := #[.val (.ref a), .val (.int (Int32.ofNat o)), .val (.int (Int32.ofNat m)), .val (.int (0 : Int32)), .val (.int (Int32.ofNat o)), .unset]) rfl ?_
  exact own_outer (C := C) hw a o m B A hm m 0 .unset One.u (by omega)
theorem own_ix {o k : Nat} {K : Int32} (hK : K = Int32.ofNat k) (h : o + k < 1000) : Int32.ofNat o + K = Int32.ofNat (o + k) := by subst hK; exact (Int32.ofNat_add o k).symm
theorem own_lk {m k : Nat} {K : Int32} (hK : K = Int32.ofNat k) (hk : k < 1000) (hm : m < 1000) : K < Int32.ofNat m ↔ k < m := by
  subst hK; rw [Int32.lt_iff_toInt_lt, n32_toInt (by omega), n32_toInt (by omega)]; omega
theorem own_c1 {B : Nat → Int32} {o m k : Nat} (h : k < m) : own_step (own_crc B o (min k m)) (B (o + k) &&& 255) = own_crc B o (min (k + 1) m) := by
  rw [show min k m = k by omega, show min (k + 1) m = k + 1 by omega, own_crc]
theorem own_c0 {B : Nat → Int32} {o m k : Nat} (h : ¬ k < m) : own_crc B o (min k m) = own_crc B o (min (k + 1) m) := by
  rw [show min k m = min (k + 1) m by omega]
set_option maxRecDepth 65536 in
set_option maxHeartbeats 40000000 in
theorem seg_173 {l : Launch} {Z : State} {a0 : Array Value} (hw : ∀ d ∈ tables_1, d.before a0 Z = true) {w : Wk} {n0 : Nat} {h0 : Heap} {Y : State → Outcome → Prop} (p0 p1 p2 p3 p4 p5 : Int32) (a : Addr) (o m : Nat) (B : Nat → Int32) (C : Cx w Z "com/example/motewire/motewire/io/TinyOsFramesChecksumPinLaw" code 10 (some .boolean) "law" room_1 n0 (fun v _ => v = some (.int 1)) Y) (A : Arf Z h0 a "[B" .byte 5 (fun j => .int (B j))) (hm : o + m ≤ 5) :
    Go w l room_1 n0 Y h0 1 5 173 #[.val (.int p0), .val (.int p1), .val (.int p2), .val (.int p3), .val (.int p4), .val (.int p5), .val (.ref a), .val (.int (Int32.ofNat o)), .val (.int (Int32.ofNat m)), .val (.int (own_crc B o (min 5 m)))] [] := by
  refine g_aload C at_173 (pc' := 175) rfl rfl rfl ?_
  refine g_iload C at_175 (pc' := 177) rfl rfl ?_
  refine g_iload C at_177 (pc' := 179) rfl rfl ?_
  refine g_static (rm := R_mc) C (y := (⟨"com/example/motewire/motewire/io/TinyOsFrames", "checksum", "([BII)I"⟩ : MethodName)) (hw _ (List.mem_of_getElem? (i := 5) rfl)) (hw _ (List.mem_of_getElem? (i := 6) rfl)) (hw _ (List.mem_of_getElem? (i := 7) rfl)) (hw _ (List.mem_of_getElem? (i := 8) rfl)) (by decide) at_179 (pc' := 182) rfl (argsL := [(.ref a), (.int (Int32.ofNat o)), (.int (Int32.ofNat m))]) (rest := []) (lenOf pd_1 rfl) rfl (W := 0) (Nat.le_of_eq rfl) rfl (fun hn9 => Met.back (rm := R_mc) (mc hw a o m B A hm) hn9 C.hZ (hw _ (List.mem_of_getElem? (i := 8) rfl)) (hw _ (List.mem_of_getElem? (i := 7) rfl)) (by decide) (by decide)) (k' := 1) (n' := 5) rfl rfl (by decide) (by decide) ?_
  rintro _ _ ⟨rfl, rfl⟩
  show Go w l _ n0 _ h0 1 5 182 #[.val (.int p0), .val (.int p1), .val (.int p2), .val (.int p3), .val (.int p4), .val (.int p5), .val (.ref a), .val (.int (Int32.ofNat o)), .val (.int (Int32.ofNat m)), .val (.int (own_crc B o (min 5 m)))] [(.int (own_crc B o m))]
  refine g_iload C at_182 (pc' := 184) rfl rfl ?_
  refine g_icmp_ne C at_184 (by decide) (pc' := 191) (by decide) (pcN := 187) rfl (fun q => absurd (by rw [show min 5 m = m by omega]) q) (fun _ => ?_)
  refine g_iconst C (z := (1 : Int32)) at_187 (pc' := 188) rfl rfl ?_
  refine g_goto C at_188 (by decide) (pc' := 192) (by decide) ?_
  exact g_retN C (t := .boolean) rfl (by simp) at_192 rfl (by decide) (by decide)
set_option maxRecDepth 65536 in
set_option maxHeartbeats 40000000 in
theorem seg_149 {l : Launch} {Z : State} {a0 : Array Value} (hw : ∀ d ∈ tables_1, d.before a0 Z = true) {w : Wk} {n0 : Nat} {h0 : Heap} {Y : State → Outcome → Prop} (p0 p1 p2 p3 p4 p5 : Int32) (a : Addr) (o m : Nat) (B : Nat → Int32) (C : Cx w Z "com/example/motewire/motewire/io/TinyOsFramesChecksumPinLaw" code 10 (some .boolean) "law" room_1 n0 (fun v _ => v = some (.int 1)) Y) (A : Arf Z h0 a "[B" .byte 5 (fun j => .int (B j))) (hm : o + m ≤ 5) :
    Go w l room_1 n0 Y h0 1 5 149 #[.val (.int p0), .val (.int p1), .val (.int p2), .val (.int p3), .val (.int p4), .val (.int p5), .val (.ref a), .val (.int (Int32.ofNat o)), .val (.int (Int32.ofNat m)), .val (.int (own_crc B o (min 4 m)))] [] := by
  refine g_iload C at_149 (pc' := 151) rfl rfl ?_
  refine g_iconst C (z := (4 : Int32)) at_151 (pc' := 152) rfl rfl ?_
  refine g_icmp_le C at_152 (by decide) (pc' := 173) (by decide) (pcN := 155) rfl (fun q152 => ?_) (fun q152 => ?_)
  · exact by rw [own_c0 (fun z => q152 ((own_lk (k := 4) rfl (by omega) (by omega)).mpr z))]; exact seg_173 (C := C) hw p0 p1 p2 p3 p4 p5 a o m B A hm
  · refine g_iload C at_155 (pc' := 157) rfl rfl ?_
    refine g_aload C at_157 (pc' := 159) rfl rfl rfl ?_
    refine g_iload C at_159 (pc' := 161) rfl rfl ?_
    refine g_iconst C (z := (4 : Int32)) at_161 (pc' := 162) rfl rfl ?_
    refine g_iadd C at_162 (pc' := 163) rfl ?_
    refine g_baload C (v := (.int (B (o + 4)))) A (by rw [own_ix (K := (4 : Int32)) (k := 4) rfl (by omega)]; exact n32_nn (by omega)) (by rw [own_ix (K := (4 : Int32)) (k := 4) rfl (by omega)]; exact n32_lt (n := 5) (by have := ((own_lk (k := 4) rfl (by omega) (by omega)).mp q152); omega) (by omega)) (by show Value.int (B _) = _; rw [own_ix (K := (4 : Int32)) (k := 4) rfl (by omega), n32_nat (by omega)]) at_163 (pc' := 164) rfl ?_
    refine g_sipush C (z := (255 : Int32)) at_164 (pc' := 167) rfl rfl ?_
    refine g_iand C at_167 (pc' := 168) rfl ?_
    refine g_static (rm := R_m3) C (y := (⟨"com/example/motewire/motewire/io/TinyOsFramesChecksumPinLaw", "step", "(II)I"⟩ : MethodName)) (hw _ (List.mem_of_getElem? (i := 9) rfl)) (hw _ (List.mem_of_getElem? (i := 10) rfl)) (hw _ (List.mem_of_getElem? (i := 11) rfl)) (hw _ (List.mem_of_getElem? (i := 12) rfl)) (by decide) at_168 (pc' := 171) rfl (argsL := [(.int (own_crc B o (min 4 m))), (.int ((B (o + 4)) &&& (255 : Int32)))]) (rest := []) (lenOf pd_2 rfl) rfl (W := 0) (Nat.le_of_eq rfl) rfl (fun hn9 => Met.back (rm := R_m3) (m3 hw (own_crc B o (min 4 m)) ((B (o + 4)) &&& (255 : Int32))) hn9 C.hZ (hw _ (List.mem_of_getElem? (i := 12) rfl)) (hw _ (List.mem_of_getElem? (i := 11) rfl)) (by decide) (by decide)) (k' := 1) (n' := 5) rfl rfl (by decide) (by decide) ?_
    rintro _ _ ⟨rfl, rfl⟩
    show Go w l _ n0 _ h0 1 5 171 #[.val (.int p0), .val (.int p1), .val (.int p2), .val (.int p3), .val (.int p4), .val (.int p5), .val (.ref a), .val (.int (Int32.ofNat o)), .val (.int (Int32.ofNat m)), .val (.int (own_crc B o (min 4 m)))] [(.int (own_step (own_crc B o (min 4 m)) ((B (o + 4)) &&& (255 : Int32))))]
    refine g_istore C at_171 (pc' := 173) rfl (Ls' := #[.val (.int p0), .val (.int p1), .val (.int p2), .val (.int p3), .val (.int p4), .val (.int p5), .val (.ref a), .val (.int (Int32.ofNat o)), .val (.int (Int32.ofNat m)), .val (.int (own_step (own_crc B o (min 4 m)) ((B (o + 4)) &&& (255 : Int32))))]) rfl ?_
    exact by rw [own_c1 ((own_lk (k := 4) rfl (by omega) (by omega)).mp q152)]; exact seg_173 (C := C) hw p0 p1 p2 p3 p4 p5 a o m B A hm
set_option maxRecDepth 65536 in
set_option maxHeartbeats 40000000 in
theorem seg_125 {l : Launch} {Z : State} {a0 : Array Value} (hw : ∀ d ∈ tables_1, d.before a0 Z = true) {w : Wk} {n0 : Nat} {h0 : Heap} {Y : State → Outcome → Prop} (p0 p1 p2 p3 p4 p5 : Int32) (a : Addr) (o m : Nat) (B : Nat → Int32) (C : Cx w Z "com/example/motewire/motewire/io/TinyOsFramesChecksumPinLaw" code 10 (some .boolean) "law" room_1 n0 (fun v _ => v = some (.int 1)) Y) (A : Arf Z h0 a "[B" .byte 5 (fun j => .int (B j))) (hm : o + m ≤ 5) :
    Go w l room_1 n0 Y h0 1 5 125 #[.val (.int p0), .val (.int p1), .val (.int p2), .val (.int p3), .val (.int p4), .val (.int p5), .val (.ref a), .val (.int (Int32.ofNat o)), .val (.int (Int32.ofNat m)), .val (.int (own_crc B o (min 3 m)))] [] := by
  refine g_iload C at_125 (pc' := 127) rfl rfl ?_
  refine g_iconst C (z := (3 : Int32)) at_127 (pc' := 128) rfl rfl ?_
  refine g_icmp_le C at_128 (by decide) (pc' := 149) (by decide) (pcN := 131) rfl (fun q128 => ?_) (fun q128 => ?_)
  · exact by rw [own_c0 (fun z => q128 ((own_lk (k := 3) rfl (by omega) (by omega)).mpr z))]; exact seg_149 (C := C) hw p0 p1 p2 p3 p4 p5 a o m B A hm
  · refine g_iload C at_131 (pc' := 133) rfl rfl ?_
    refine g_aload C at_133 (pc' := 135) rfl rfl rfl ?_
    refine g_iload C at_135 (pc' := 137) rfl rfl ?_
    refine g_iconst C (z := (3 : Int32)) at_137 (pc' := 138) rfl rfl ?_
    refine g_iadd C at_138 (pc' := 139) rfl ?_
    refine g_baload C (v := (.int (B (o + 3)))) A (by rw [own_ix (K := (3 : Int32)) (k := 3) rfl (by omega)]; exact n32_nn (by omega)) (by rw [own_ix (K := (3 : Int32)) (k := 3) rfl (by omega)]; exact n32_lt (n := 5) (by have := ((own_lk (k := 3) rfl (by omega) (by omega)).mp q128); omega) (by omega)) (by show Value.int (B _) = _; rw [own_ix (K := (3 : Int32)) (k := 3) rfl (by omega), n32_nat (by omega)]) at_139 (pc' := 140) rfl ?_
    refine g_sipush C (z := (255 : Int32)) at_140 (pc' := 143) rfl rfl ?_
    refine g_iand C at_143 (pc' := 144) rfl ?_
    refine g_static (rm := R_m3) C (y := (⟨"com/example/motewire/motewire/io/TinyOsFramesChecksumPinLaw", "step", "(II)I"⟩ : MethodName)) (hw _ (List.mem_of_getElem? (i := 9) rfl)) (hw _ (List.mem_of_getElem? (i := 10) rfl)) (hw _ (List.mem_of_getElem? (i := 11) rfl)) (hw _ (List.mem_of_getElem? (i := 12) rfl)) (by decide) at_144 (pc' := 147) rfl (argsL := [(.int (own_crc B o (min 3 m))), (.int ((B (o + 3)) &&& (255 : Int32)))]) (rest := []) (lenOf pd_2 rfl) rfl (W := 0) (Nat.le_of_eq rfl) rfl (fun hn9 => Met.back (rm := R_m3) (m3 hw (own_crc B o (min 3 m)) ((B (o + 3)) &&& (255 : Int32))) hn9 C.hZ (hw _ (List.mem_of_getElem? (i := 12) rfl)) (hw _ (List.mem_of_getElem? (i := 11) rfl)) (by decide) (by decide)) (k' := 1) (n' := 5) rfl rfl (by decide) (by decide) ?_
    rintro _ _ ⟨rfl, rfl⟩
    show Go w l _ n0 _ h0 1 5 147 #[.val (.int p0), .val (.int p1), .val (.int p2), .val (.int p3), .val (.int p4), .val (.int p5), .val (.ref a), .val (.int (Int32.ofNat o)), .val (.int (Int32.ofNat m)), .val (.int (own_crc B o (min 3 m)))] [(.int (own_step (own_crc B o (min 3 m)) ((B (o + 3)) &&& (255 : Int32))))]
    refine g_istore C at_147 (pc' := 149) rfl (Ls' := #[.val (.int p0), .val (.int p1), .val (.int p2), .val (.int p3), .val (.int p4), .val (.int p5), .val (.ref a), .val (.int (Int32.ofNat o)), .val (.int (Int32.ofNat m)), .val (.int (own_step (own_crc B o (min 3 m)) ((B (o + 3)) &&& (255 : Int32))))]) rfl ?_
    exact by rw [own_c1 ((own_lk (k := 3) rfl (by omega) (by omega)).mp q128)]; exact seg_149 (C := C) hw p0 p1 p2 p3 p4 p5 a o m B A hm
set_option maxRecDepth 65536 in
set_option maxHeartbeats 40000000 in
theorem seg_101 {l : Launch} {Z : State} {a0 : Array Value} (hw : ∀ d ∈ tables_1, d.before a0 Z = true) {w : Wk} {n0 : Nat} {h0 : Heap} {Y : State → Outcome → Prop} (p0 p1 p2 p3 p4 p5 : Int32) (a : Addr) (o m : Nat) (B : Nat → Int32) (C : Cx w Z "com/example/motewire/motewire/io/TinyOsFramesChecksumPinLaw" code 10 (some .boolean) "law" room_1 n0 (fun v _ => v = some (.int 1)) Y) (A : Arf Z h0 a "[B" .byte 5 (fun j => .int (B j))) (hm : o + m ≤ 5) :
    Go w l room_1 n0 Y h0 1 5 101 #[.val (.int p0), .val (.int p1), .val (.int p2), .val (.int p3), .val (.int p4), .val (.int p5), .val (.ref a), .val (.int (Int32.ofNat o)), .val (.int (Int32.ofNat m)), .val (.int (own_crc B o (min 2 m)))] [] := by
  refine g_iload C at_101 (pc' := 103) rfl rfl ?_
  refine g_iconst C (z := (2 : Int32)) at_103 (pc' := 104) rfl rfl ?_
  refine g_icmp_le C at_104 (by decide) (pc' := 125) (by decide) (pcN := 107) rfl (fun q104 => ?_) (fun q104 => ?_)
  · exact by rw [own_c0 (fun z => q104 ((own_lk (k := 2) rfl (by omega) (by omega)).mpr z))]; exact seg_125 (C := C) hw p0 p1 p2 p3 p4 p5 a o m B A hm
  · refine g_iload C at_107 (pc' := 109) rfl rfl ?_
    refine g_aload C at_109 (pc' := 111) rfl rfl rfl ?_
    refine g_iload C at_111 (pc' := 113) rfl rfl ?_
    refine g_iconst C (z := (2 : Int32)) at_113 (pc' := 114) rfl rfl ?_
    refine g_iadd C at_114 (pc' := 115) rfl ?_
    refine g_baload C (v := (.int (B (o + 2)))) A (by rw [own_ix (K := (2 : Int32)) (k := 2) rfl (by omega)]; exact n32_nn (by omega)) (by rw [own_ix (K := (2 : Int32)) (k := 2) rfl (by omega)]; exact n32_lt (n := 5) (by have := ((own_lk (k := 2) rfl (by omega) (by omega)).mp q104); omega) (by omega)) (by show Value.int (B _) = _; rw [own_ix (K := (2 : Int32)) (k := 2) rfl (by omega), n32_nat (by omega)]) at_115 (pc' := 116) rfl ?_
    refine g_sipush C (z := (255 : Int32)) at_116 (pc' := 119) rfl rfl ?_
    refine g_iand C at_119 (pc' := 120) rfl ?_
    refine g_static (rm := R_m3) C (y := (⟨"com/example/motewire/motewire/io/TinyOsFramesChecksumPinLaw", "step", "(II)I"⟩ : MethodName)) (hw _ (List.mem_of_getElem? (i := 9) rfl)) (hw _ (List.mem_of_getElem? (i := 10) rfl)) (hw _ (List.mem_of_getElem? (i := 11) rfl)) (hw _ (List.mem_of_getElem? (i := 12) rfl)) (by decide) at_120 (pc' := 123) rfl (argsL := [(.int (own_crc B o (min 2 m))), (.int ((B (o + 2)) &&& (255 : Int32)))]) (rest := []) (lenOf pd_2 rfl) rfl (W := 0) (Nat.le_of_eq rfl) rfl (fun hn9 => Met.back (rm := R_m3) (m3 hw (own_crc B o (min 2 m)) ((B (o + 2)) &&& (255 : Int32))) hn9 C.hZ (hw _ (List.mem_of_getElem? (i := 12) rfl)) (hw _ (List.mem_of_getElem? (i := 11) rfl)) (by decide) (by decide)) (k' := 1) (n' := 5) rfl rfl (by decide) (by decide) ?_
    rintro _ _ ⟨rfl, rfl⟩
    show Go w l _ n0 _ h0 1 5 123 #[.val (.int p0), .val (.int p1), .val (.int p2), .val (.int p3), .val (.int p4), .val (.int p5), .val (.ref a), .val (.int (Int32.ofNat o)), .val (.int (Int32.ofNat m)), .val (.int (own_crc B o (min 2 m)))] [(.int (own_step (own_crc B o (min 2 m)) ((B (o + 2)) &&& (255 : Int32))))]
    refine g_istore C at_123 (pc' := 125) rfl (Ls' := #[.val (.int p0), .val (.int p1), .val (.int p2), .val (.int p3), .val (.int p4), .val (.int p5), .val (.ref a), .val (.int (Int32.ofNat o)), .val (.int (Int32.ofNat m)), .val (.int (own_step (own_crc B o (min 2 m)) ((B (o + 2)) &&& (255 : Int32))))]) rfl ?_
    exact by rw [own_c1 ((own_lk (k := 2) rfl (by omega) (by omega)).mp q104)]; exact seg_125 (C := C) hw p0 p1 p2 p3 p4 p5 a o m B A hm
set_option maxRecDepth 65536 in
set_option maxHeartbeats 40000000 in
theorem seg_77 {l : Launch} {Z : State} {a0 : Array Value} (hw : ∀ d ∈ tables_1, d.before a0 Z = true) {w : Wk} {n0 : Nat} {h0 : Heap} {Y : State → Outcome → Prop} (p0 p1 p2 p3 p4 p5 : Int32) (a : Addr) (o m : Nat) (B : Nat → Int32) (C : Cx w Z "com/example/motewire/motewire/io/TinyOsFramesChecksumPinLaw" code 10 (some .boolean) "law" room_1 n0 (fun v _ => v = some (.int 1)) Y) (A : Arf Z h0 a "[B" .byte 5 (fun j => .int (B j))) (hm : o + m ≤ 5) :
    Go w l room_1 n0 Y h0 1 5 77 #[.val (.int p0), .val (.int p1), .val (.int p2), .val (.int p3), .val (.int p4), .val (.int p5), .val (.ref a), .val (.int (Int32.ofNat o)), .val (.int (Int32.ofNat m)), .val (.int (own_crc B o (min 1 m)))] [] := by
  refine g_iload C at_77 (pc' := 79) rfl rfl ?_
  refine g_iconst C (z := (1 : Int32)) at_79 (pc' := 80) rfl rfl ?_
  refine g_icmp_le C at_80 (by decide) (pc' := 101) (by decide) (pcN := 83) rfl (fun q80 => ?_) (fun q80 => ?_)
  · exact by rw [own_c0 (fun z => q80 ((own_lk (k := 1) rfl (by omega) (by omega)).mpr z))]; exact seg_101 (C := C) hw p0 p1 p2 p3 p4 p5 a o m B A hm
  · refine g_iload C at_83 (pc' := 85) rfl rfl ?_
    refine g_aload C at_85 (pc' := 87) rfl rfl rfl ?_
    refine g_iload C at_87 (pc' := 89) rfl rfl ?_
    refine g_iconst C (z := (1 : Int32)) at_89 (pc' := 90) rfl rfl ?_
    refine g_iadd C at_90 (pc' := 91) rfl ?_
    refine g_baload C (v := (.int (B (o + 1)))) A (by rw [own_ix (K := (1 : Int32)) (k := 1) rfl (by omega)]; exact n32_nn (by omega)) (by rw [own_ix (K := (1 : Int32)) (k := 1) rfl (by omega)]; exact n32_lt (n := 5) (by have := ((own_lk (k := 1) rfl (by omega) (by omega)).mp q80); omega) (by omega)) (by show Value.int (B _) = _; rw [own_ix (K := (1 : Int32)) (k := 1) rfl (by omega), n32_nat (by omega)]) at_91 (pc' := 92) rfl ?_
    refine g_sipush C (z := (255 : Int32)) at_92 (pc' := 95) rfl rfl ?_
    refine g_iand C at_95 (pc' := 96) rfl ?_
    refine g_static (rm := R_m3) C (y := (⟨"com/example/motewire/motewire/io/TinyOsFramesChecksumPinLaw", "step", "(II)I"⟩ : MethodName)) (hw _ (List.mem_of_getElem? (i := 9) rfl)) (hw _ (List.mem_of_getElem? (i := 10) rfl)) (hw _ (List.mem_of_getElem? (i := 11) rfl)) (hw _ (List.mem_of_getElem? (i := 12) rfl)) (by decide) at_96 (pc' := 99) rfl (argsL := [(.int (own_crc B o (min 1 m))), (.int ((B (o + 1)) &&& (255 : Int32)))]) (rest := []) (lenOf pd_2 rfl) rfl (W := 0) (Nat.le_of_eq rfl) rfl (fun hn9 => Met.back (rm := R_m3) (m3 hw (own_crc B o (min 1 m)) ((B (o + 1)) &&& (255 : Int32))) hn9 C.hZ (hw _ (List.mem_of_getElem? (i := 12) rfl)) (hw _ (List.mem_of_getElem? (i := 11) rfl)) (by decide) (by decide)) (k' := 1) (n' := 5) rfl rfl (by decide) (by decide) ?_
    rintro _ _ ⟨rfl, rfl⟩
    show Go w l _ n0 _ h0 1 5 99 #[.val (.int p0), .val (.int p1), .val (.int p2), .val (.int p3), .val (.int p4), .val (.int p5), .val (.ref a), .val (.int (Int32.ofNat o)), .val (.int (Int32.ofNat m)), .val (.int (own_crc B o (min 1 m)))] [(.int (own_step (own_crc B o (min 1 m)) ((B (o + 1)) &&& (255 : Int32))))]
    refine g_istore C at_99 (pc' := 101) rfl (Ls' := #[.val (.int p0), .val (.int p1), .val (.int p2), .val (.int p3), .val (.int p4), .val (.int p5), .val (.ref a), .val (.int (Int32.ofNat o)), .val (.int (Int32.ofNat m)), .val (.int (own_step (own_crc B o (min 1 m)) ((B (o + 1)) &&& (255 : Int32))))]) rfl ?_
    exact by rw [own_c1 ((own_lk (k := 1) rfl (by omega) (by omega)).mp q80)]; exact seg_101 (C := C) hw p0 p1 p2 p3 p4 p5 a o m B A hm
set_option maxRecDepth 65536 in
set_option maxHeartbeats 40000000 in
theorem seg_56 {l : Launch} {Z : State} {a0 : Array Value} (hw : ∀ d ∈ tables_1, d.before a0 Z = true) {w : Wk} {n0 : Nat} {h0 : Heap} {Y : State → Outcome → Prop} (p0 p1 p2 p3 p4 p5 : Int32) (a : Addr) (o m : Nat) (B : Nat → Int32) (C : Cx w Z "com/example/motewire/motewire/io/TinyOsFramesChecksumPinLaw" code 10 (some .boolean) "law" room_1 n0 (fun v _ => v = some (.int 1)) Y) (A : Arf Z h0 a "[B" .byte 5 (fun j => .int (B j))) (hm : o + m ≤ 5) :
    Go w l room_1 n0 Y h0 1 5 56 #[.val (.int p0), .val (.int p1), .val (.int p2), .val (.int p3), .val (.int p4), .val (.int p5), .val (.ref a), .val (.int (Int32.ofNat o)), .val (.int (Int32.ofNat m)), .val (.int (own_crc B o (min 0 m)))] [] := by
  refine g_iload C at_56 (pc' := 58) rfl rfl ?_
  refine g_if_le C at_58 (by decide) (pc' := 77) (by decide) (pcN := 61) rfl (fun q58 => ?_) (fun q58 => ?_)
  · exact by rw [own_c0 (fun z => q58 ((own_lk (k := 0) rfl (by omega) (by omega)).mpr z))]; exact seg_77 (C := C) hw p0 p1 p2 p3 p4 p5 a o m B A hm
  · refine g_iload C at_61 (pc' := 63) rfl rfl ?_
    refine g_aload C at_63 (pc' := 65) rfl rfl rfl ?_
    refine g_iload C at_65 (pc' := 67) rfl rfl ?_
    refine g_baload C (v := (.int (B (o + 0)))) A (n32_nn (by omega)) (n32_lt (n := 5) (by have := ((own_lk (k := 0) rfl (by omega) (by omega)).mp q58); omega) (by omega)) (by show Value.int (B _) = _; rw [n32_nat (by omega), Nat.add_zero]) at_67 (pc' := 68) rfl ?_
    refine g_sipush C (z := (255 : Int32)) at_68 (pc' := 71) rfl rfl ?_
    refine g_iand C at_71 (pc' := 72) rfl ?_
    refine g_static (rm := R_m3) C (y := (⟨"com/example/motewire/motewire/io/TinyOsFramesChecksumPinLaw", "step", "(II)I"⟩ : MethodName)) (hw _ (List.mem_of_getElem? (i := 9) rfl)) (hw _ (List.mem_of_getElem? (i := 10) rfl)) (hw _ (List.mem_of_getElem? (i := 11) rfl)) (hw _ (List.mem_of_getElem? (i := 12) rfl)) (by decide) at_72 (pc' := 75) rfl (argsL := [(.int (own_crc B o (min 0 m))), (.int ((B (o + 0)) &&& (255 : Int32)))]) (rest := []) (lenOf pd_2 rfl) rfl (W := 0) (Nat.le_of_eq rfl) rfl (fun hn9 => Met.back (rm := R_m3) (m3 hw (own_crc B o (min 0 m)) ((B (o + 0)) &&& (255 : Int32))) hn9 C.hZ (hw _ (List.mem_of_getElem? (i := 12) rfl)) (hw _ (List.mem_of_getElem? (i := 11) rfl)) (by decide) (by decide)) (k' := 1) (n' := 5) rfl rfl (by decide) (by decide) ?_
    rintro _ _ ⟨rfl, rfl⟩
    show Go w l _ n0 _ h0 1 5 75 #[.val (.int p0), .val (.int p1), .val (.int p2), .val (.int p3), .val (.int p4), .val (.int p5), .val (.ref a), .val (.int (Int32.ofNat o)), .val (.int (Int32.ofNat m)), .val (.int (own_crc B o (min 0 m)))] [(.int (own_step (own_crc B o (min 0 m)) ((B (o + 0)) &&& (255 : Int32))))]
    refine g_istore C at_75 (pc' := 77) rfl (Ls' := #[.val (.int p0), .val (.int p1), .val (.int p2), .val (.int p3), .val (.int p4), .val (.int p5), .val (.ref a), .val (.int (Int32.ofNat o)), .val (.int (Int32.ofNat m)), .val (.int (own_step (own_crc B o (min 0 m)) ((B (o + 0)) &&& (255 : Int32))))]) rfl ?_
    exact by rw [own_c1 ((own_lk (k := 0) rfl (by omega) (by omega)).mp q58)]; exact seg_77 (C := C) hw p0 p1 p2 p3 p4 p5 a o m B A hm
def own_B (a b c d e : Int32) : Nat → Int32
  | 0 => nar .byte a.toInt8.toInt32
  | 1 => nar .byte b.toInt8.toInt32
  | 2 => nar .byte c.toInt8.toInt32
  | 3 => nar .byte d.toInt8.toInt32
  | _ => nar .byte e.toInt8.toInt32
theorem own_sel (x : Int32) : ∃ o m : Nat, o + m ≤ 5 ∧ x &&& 3 = Int32.ofNat o ∧ own_min ((x.toUInt32 >>> ((2 : Int32) &&& 31).toUInt32).toInt32 &&& 7) (5 - (x &&& 3)) = Int32.ofNat m := by
  have m3 := c_mask x 3 2 (by decide) (by decide)
  have m7 := c_mask (x.toUInt32 >>> ((2 : Int32) &&& 31).toUInt32).toInt32 7 3 (by decide) (by decide)
  have e3 : ((2 ^ 2 : Nat) : Int) = 4 := rfl
  have e7 : ((2 ^ 3 : Nat) : Int) = 8 := rfl
  rw [e3] at m3; rw [e7] at m7
  have s := c_isub 5 (x &&& 3)
  have r := rng32 (5 - (x &&& 3))
  have e5 : (5 : Int32).toInt = 5 := rfl
  have e0 : (0 : Int32).toInt = 0 := rfl
  generalize ((x.toUInt32 >>> ((2 : Int32) &&& 31).toUInt32).toInt32 &&& 7) = u at *
  generalize hv : (5 : Int32) - (x &&& 3) = v at *
  generalize x &&& 3 = t at *
  refine ⟨t.toNatClampNeg, (own_min u v).toNatClampNeg, ?_, n32_of ?_, n32_of ?_⟩
  · unfold own_min; split <;> rename_i q <;> rw [Int32.lt_iff_toInt_lt] at q <;> simp only [Int32.toNatClampNeg] <;> omega
  · rw [Int32.lt_iff_toInt_lt]; omega
  · unfold own_min; split <;> rename_i q <;> rw [Int32.lt_iff_toInt_lt] at q <;> rw [Int32.lt_iff_toInt_lt] <;> omega
set_option maxRecDepth 65536 in
set_option maxHeartbeats 40000000 in
theorem law0 {l : Launch} {Z : State} {a0 : Array Value} (hw : ∀ d ∈ tables_1, d.before a0 Z = true) {h0 : Heap} {n0 : Nat} (p0 p1 p2 p3 p4 p5 : Int32)  :
    Met l Z x code maxLocals ret room_1 n0 h0 #[(.int p0), (.int p1), (.int p2), (.int p3), (.int p4), (.int p5)] (fun v _ => v = some (.int 1)) := by
  refine Met.intro (plainFor_of_name (by first | (simp [plainName, overriddenIn, x]; done) | decide +kernel)) (fun mM => (show entryFrame mM #[(.int p0), (.int p1), (.int p2), (.int p3), (.int p4), (.int p5)] maxLocals = mkF mM 0 #[.val (.int p0), .val (.int p1), .val (.int p2), .val (.int p3), .val (.int p4), .val (.int p5), .unset, .unset, .unset, .unset] [] from by first | rfl | (simp [entryFrame, mkF, argsToLocals, Value.category, maxLocals]; done))) (fun w Y C => ?_)
  have C : Cx w Z "com/example/motewire/motewire/io/TinyOsFramesChecksumPinLaw" code 10 (some .boolean) "law" room_1 n0 _ Y := C
  refine g_iconst C (z := (5 : Int32)) at_0 (pc' := 1) rfl rfl ?_
  refine g_newarr C (ad := "[B") (cap := 5) (hw _ (List.mem_of_getElem? (i := 0) rfl)) at_1 (pc' := 3) rfl rfl (by decide) (by decide) (by decide) (k' := 1) (n' := 5) rfl rfl (by decide) (by decide) rfl ?_
  intro h1 b1 E1 fb1 gb1 A1
  have A1 : Arf Z h1 b1 "[B" .byte (5 : Int32) (fun _ => (.int 0)) := A1
  refine g_dup C at_3 (pc' := 4) rfl rfl ?_
  refine g_iconst C (z := (0 : Int32)) at_4 (pc' := 5) rfl rfl ?_
  refine g_iloadN C at_5 (pc' := 6) rfl rfl ?_
  refine g_i2b C at_6 (pc' := 7) rfl ?_
  refine g_bastore C A1 (by decide) (by decide) at_7 (pc' := 8) rfl gb1 (fun h2 W3 A1' => ?_)
  have A1 : Arf Z h2 b1 "[B" .byte (5 : Int32) (upd (fun _ => (.int 0)) 0 (.int (nar .byte (p0.toInt8.toInt32)))) := A1'
  refine g_dup C at_8 (pc' := 9) rfl rfl ?_
  refine g_iconst C (z := (1 : Int32)) at_9 (pc' := 10) rfl rfl ?_
  refine g_iloadN C at_10 (pc' := 11) rfl rfl ?_
  refine g_i2b C at_11 (pc' := 12) rfl ?_
  refine g_bastore C A1 (by decide) (by decide) at_12 (pc' := 13) rfl gb1 (fun h4 W5 A1' => ?_)
  have A1 : Arf Z h4 b1 "[B" .byte (5 : Int32) (upd (upd (fun _ => (.int 0)) 0 (.int (nar .byte (p0.toInt8.toInt32)))) 1 (.int (nar .byte (p1.toInt8.toInt32)))) := A1'
  refine g_dup C at_13 (pc' := 14) rfl rfl ?_
  refine g_iconst C (z := (2 : Int32)) at_14 (pc' := 15) rfl rfl ?_
  refine g_iloadN C at_15 (pc' := 16) rfl rfl ?_
  refine g_i2b C at_16 (pc' := 17) rfl ?_
  refine g_bastore C A1 (by decide) (by decide) at_17 (pc' := 18) rfl gb1 (fun h6 W7 A1' => ?_)
  have A1 : Arf Z h6 b1 "[B" .byte (5 : Int32) (upd (upd (upd (fun _ => (.int 0)) 0 (.int (nar .byte (p0.toInt8.toInt32)))) 1 (.int (nar .byte (p1.toInt8.toInt32)))) 2 (.int (nar .byte (p2.toInt8.toInt32)))) := A1'
  refine g_dup C at_18 (pc' := 19) rfl rfl ?_
  refine g_iconst C (z := (3 : Int32)) at_19 (pc' := 20) rfl rfl ?_
  refine g_iloadN C at_20 (pc' := 21) rfl rfl ?_
  refine g_i2b C at_21 (pc' := 22) rfl ?_
  refine g_bastore C A1 (by decide) (by decide) at_22 (pc' := 23) rfl gb1 (fun h8 W9 A1' => ?_)
  have A1 : Arf Z h8 b1 "[B" .byte (5 : Int32) (upd (upd (upd (upd (fun _ => (.int 0)) 0 (.int (nar .byte (p0.toInt8.toInt32)))) 1 (.int (nar .byte (p1.toInt8.toInt32)))) 2 (.int (nar .byte (p2.toInt8.toInt32)))) 3 (.int (nar .byte (p3.toInt8.toInt32)))) := A1'
  refine g_dup C at_23 (pc' := 24) rfl rfl ?_
  refine g_iconst C (z := (4 : Int32)) at_24 (pc' := 25) rfl rfl ?_
  refine g_iload C at_25 (pc' := 27) rfl rfl ?_
  refine g_i2b C at_27 (pc' := 28) rfl ?_
  refine g_bastore C A1 (by decide) (by decide) at_28 (pc' := 29) rfl gb1 (fun h10 W11 A1' => ?_)
  have A1 : Arf Z h10 b1 "[B" .byte (5 : Int32) (upd (upd (upd (upd (upd (fun _ => (.int 0)) 0 (.int (nar .byte (p0.toInt8.toInt32)))) 1 (.int (nar .byte (p1.toInt8.toInt32)))) 2 (.int (nar .byte (p2.toInt8.toInt32)))) 3 (.int (nar .byte (p3.toInt8.toInt32)))) 4 (.int (nar .byte (p4.toInt8.toInt32)))) := A1'
  refine g_astore C at_29 (pc' := 31) rfl rfl (Ls' := #[.val (.int p0), .val (.int p1), .val (.int p2), .val (.int p3), .val (.int p4), .val (.int p5), .val (.ref b1), .unset, .unset, .unset]) rfl ?_
  refine g_iload C at_31 (pc' := 33) rfl rfl ?_
  refine g_iconst C (z := (3 : Int32)) at_33 (pc' := 34) rfl rfl ?_
  refine g_iand C at_34 (pc' := 35) rfl ?_
  refine g_istore C at_35 (pc' := 37) rfl (Ls' := #[.val (.int p0), .val (.int p1), .val (.int p2), .val (.int p3), .val (.int p4), .val (.int p5), .val (.ref b1), .val (.int (p5 &&& (3 : Int32))), .unset, .unset]) rfl ?_
  refine g_iload C at_37 (pc' := 39) rfl rfl ?_
  refine g_iconst C (z := (2 : Int32)) at_39 (pc' := 40) rfl rfl ?_
  refine g_iushr C at_40 (pc' := 41) rfl ?_
  refine g_bipush C (z := (7 : Int32)) at_41 (pc' := 43) rfl rfl ?_
  refine g_iand C at_43 (pc' := 44) rfl ?_
  refine g_iconst C (z := (5 : Int32)) at_44 (pc' := 45) rfl rfl ?_
  refine g_iload C at_45 (pc' := 47) rfl rfl ?_
  refine g_isub C at_47 (pc' := 48) rfl ?_
  refine g_static (rm := R_m1) C (y := (⟨"java/lang/Math", "min", "(II)I"⟩ : MethodName)) (hw _ (List.mem_of_getElem? (i := 1) rfl)) (hw _ (List.mem_of_getElem? (i := 2) rfl)) (hw _ (List.mem_of_getElem? (i := 3) rfl)) (hw _ (List.mem_of_getElem? (i := 4) rfl)) (by decide) at_48 (pc' := 51) rfl (argsL := [(.int (((p5.toUInt32 >>> ((2 : Int32) &&& 31).toUInt32).toInt32) &&& (7 : Int32))), (.int ((5 : Int32) - (p5 &&& (3 : Int32))))]) (rest := []) (lenOf pd_2 rfl) rfl (W := 0) (Nat.le_of_eq rfl) rfl (fun hn9 => Met.back (rm := R_m1) (m1 hw (((p5.toUInt32 >>> ((2 : Int32) &&& 31).toUInt32).toInt32) &&& (7 : Int32)) ((5 : Int32) - (p5 &&& (3 : Int32)))) hn9 C.hZ (hw _ (List.mem_of_getElem? (i := 4) rfl)) (hw _ (List.mem_of_getElem? (i := 3) rfl)) (by decide) (by decide)) (k' := 1) (n' := 5) rfl rfl (by decide) (by decide) ?_
  rintro _ _ ⟨rfl, rfl⟩
  show Go w l _ n0 _ h10 1 5 51 #[.val (.int p0), .val (.int p1), .val (.int p2), .val (.int p3), .val (.int p4), .val (.int p5), .val (.ref b1), .val (.int (p5 &&& (3 : Int32))), .unset, .unset] [(.int (own_min (((p5.toUInt32 >>> ((2 : Int32) &&& 31).toUInt32).toInt32) &&& (7 : Int32)) ((5 : Int32) - (p5 &&& (3 : Int32)))))]
  refine g_istore C at_51 (pc' := 53) rfl (Ls' := #[.val (.int p0), .val (.int p1), .val (.int p2), .val (.int p3), .val (.int p4), .val (.int p5), .val (.ref b1), .val (.int (p5 &&& (3 : Int32))), .val (.int (own_min (((p5.toUInt32 >>> ((2 : Int32) &&& 31).toUInt32).toInt32) &&& (7 : Int32)) ((5 : Int32) - (p5 &&& (3 : Int32))))), .unset]) rfl ?_
  obtain ⟨o, m, hm, e1, e2⟩ := own_sel p5
  rw [e2, e1]
  have A : Arf Z h10 b1 "[B" .byte 5 (fun j => .int (own_B p0 p1 p2 p3 p4 j)) := A1.congr fun j hj => by
    have hj : j < 5 := hj
    match j, hj with
    | 0, _ => rfl
    | 1, _ => rfl
    | 2, _ => rfl
    | 3, _ => rfl
    | 4, _ => rfl
  refine g_iconst C (z := (0 : Int32)) at_53 (pc' := 54) rfl rfl ?_
  refine g_istore C at_54 (pc' := 56) rfl (Ls' := #[.val (.int p0), .val (.int p1), .val (.int p2), .val (.int p3), .val (.int p4), .val (.int p5), .val (.ref b1), .val (.int (Int32.ofNat o)), .val (.int (Int32.ofNat m)), .val (.int (0 : Int32))]) rfl ?_
  exact (show Go w l room_1 n0 _ h10 1 5 56 #[.val (.int p0), .val (.int p1), .val (.int p2), .val (.int p3), .val (.int p4), .val (.int p5), .val (.ref b1), .val (.int (Int32.ofNat o)), .val (.int (Int32.ofNat m)), .val (.int (0 : Int32))] [] from by have q := seg_56 (l := l) (n0 := n0) (C := C) hw p0 p1 p2 p3 p4 p5 b1 o m _ A hm; rw [Nat.zero_min] at q; exact q)
set_option maxRecDepth 65536 in
set_option maxHeartbeats 40000000 in
theorem comes_1 {Post : Tables → Env → Array Value → State → Outcome → State → Prop} (hpost : ∀ tb e args s v u, (limb_1_1.after args s (.returned v) u = true ∧ limb_1_2.after args s (.returned v) u = true ∧ True) → FrameEnd s (.returned v) u (Jvm.fieldLocs frame_1_writes args s ++ Jvm.arrayLocs frame_1_arrays args s ++ Jvm.staticLocs frame_1_statics s) 16 128 → Post tb e args s (.returned v) u) :
    ArmFor flags0 classFile x code maxLocals ret World_1 tables_1 room_1 Calls_1 rest_1 Pre_1 Post := by
  intro l hfl _ _ p e ha hc hk s m args below hf hA hF happ hP
  obtain ⟨hcalls, hrest, hpre⟩ := hP
  obtain ⟨-, -, -, hnamed, -, -, -, hat⟩ := (Spec.applies_iff hf).mp happ
  obtain ⟨hg, hn⟩ := and_e (Cond.before_iff.mp (show (Jvm.Cond.and given_1 narrow_1).before args s = true from hpre))
  obtain ⟨g0, r0⟩ := and_e hg
  obtain ⟨g1, r1⟩ := and_e r0
  obtain ⟨g2, r2⟩ := and_e r1
  obtain ⟨g3, r3⟩ := and_e r2
  obtain ⟨g4, r4⟩ := and_e r3
  obtain ⟨g5, r5⟩ := and_e r4
  have g6 := r5
  obtain ⟨w0, w1, w2, w3, w4, w5, rfl⟩ : ∃ w0 w1 w2 w3 w4 w5 : Value, args = #[w0, w1, w2, w3, w4, w5] := by
    have hs : args.size = 6 := by simpa [Cond.value, given_1] using g0
    obtain ⟨L⟩ := args
    match L, hs with
    | [w0, w1, w2, w3, w4, w5], _ => exact ⟨w0, w1, w2, w3, w4, w5, rfl⟩
  have hw := fun d (hd : d ∈ tables_1) => atoms_spec (ws := Jvm.Cond.code x code maxLocals ret :: tables_1) hat d (List.mem_cons_of_mem _ hd)
  have hfit : Fit s := fun {y c} hc i hi => by
    obtain ⟨ha, rfl⟩ := Array.getElem?_eq_some_iff.mp hc
    have q := List.all_eq_true.mp ((Array.all_eq_true_iff_forall_mem.mp hF) _ (Array.getElem_mem ha)) i (List.mem_range.mpr hi)
    simpa [Array.getElem?_eq_getElem hi] using q
  obtain ⟨i0, ei0⟩ := is_v g1
  obtain rfl : w0 = (.int i0) := Option.some.inj ei0
  obtain ⟨i1, ei1⟩ := is_v g2
  obtain rfl : w1 = (.int i1) := Option.some.inj ei1
  obtain ⟨i2, ei2⟩ := is_v g3
  obtain rfl : w2 = (.int i2) := Option.some.inj ei2
  obtain ⟨i3, ei3⟩ := is_v g4
  obtain rfl : w3 = (.int i3) := Option.some.inj ei3
  obtain ⟨i4, ei4⟩ := is_v g5
  obtain rfl : w4 = (.int i4) := Option.some.inj ei4
  obtain ⟨i5, ei5⟩ := is_v g6
  obtain rfl : w5 = (.int i5) := Option.some.inj ei5
  obtain ⟨n, o, h1, h2, h3, _, L, rfl, ⟨rfl, N, -⟩, hq⟩ := law0 (l := l) (Z := s) hw (h0 := s.heap) (n0 := s.heap.size) i0 i1 i2 i3 i4 i5  (Nat.le_refl _) tables_1 p e ha hc hk s m _ below hf ((Spec.applies_iff_loose hf).mp happ).1 ⟨rfl, State.Warmed39.refl s, rfl⟩ trivial
  exact ⟨n, _, h1, h2, h3, hpost _ _ _ _ _ _ ⟨Cond.after_iff.mpr rfl, Cond.after_iff.mpr (eq_i res_at (Term.int_eval (1)) rfl), trivial⟩ ⟨hq.1, hq.2.1, (hq.2.2.sift fun y hy => Or.inr (N y hy)).mono (by decide) (by decide)⟩⟩
theorem main_1_1 : Claimed_1_1 := comes_1 fun _ _ _ _ _ _ h hF => ⟨h.1, hF⟩
theorem main_1_2 : Claimed_1_2 := comes_1 fun _ _ _ _ _ _ h hF => ⟨h.2.1, hF⟩
end Jvm.Pilot.@@N@@
namespace Jvm.Pilot.@@N@@
open Jvm Jvm.ClassFile Sem Op Lib Jvm.Free Jvm.Stand Jvm.Pilot.@@N@@.Jvm.D
/-! MADE BY PROGRAM (witnessworld.py) out of the Statement's table words and the real class files: 10 classes; the members and pool entries that the words name. The judged class is class 1, her method 3. -/
namespace start1
open Jvm.ClassFile
def u (s : String) : CpInfo := .utf8 (stringToUtf16 s)
/-- a pool by its gaps: so many unusable entries, then the entry; so many at the end -/
def gap : Nat → List CpInfo → List CpInfo
  | 0, r => r
  | n + 1, r => .unusable :: gap n r
def poolList (es : List (Nat × CpInfo)) (last : Nat) : List CpInfo := es.foldr (fun e r => gap e.1 (e.2 :: r)) (gap last [])
def pool (es : List (Nat × CpInfo)) (last : Nat) : Array CpInfo := ⟨poolList es last⟩
def fileOf (pool : Array CpInfo) (this : Nat) (attrs : Array Attribute := #[]) (ms : Array MethodInfo := #[]) (fl : Nat := 33) (sup : Nat := 0) (ifs : Array Nat := #[]) (fds : Array FieldInfo := #[]) : ClassFile where
  minorVersion := 0
  majorVersion := 65
  constantPool := pool
  accessFlags := fl
  thisClass := this
  superClass := sup
  interfaces := ifs
  fields := fds
  methods := ms
  attributes := attrs
def plain (name : String) (sup : Option ClassId) : Class where
  name := name
  kind := .ordinary
  loader := none
  accessFlags := 33
  super := sup
  interfaces := #[]
  cf := none
  fields := #[]
  methods := #[]
  instanceTypes := #[]
  staticTypes := #[]
  resolved := #[]
  callSites := []
  init := .initialized
  statics := none
  mirror := none

def pool0 : Array CpInfo := pool [(5, u "<init>"), (0, u "()V"), (1, .class_ 10), (1, u "java/lang/Object")] 113

def k0m0 : Method := { name := "<init>", desc := "()V", sig := { parameters := [], returnType := none }, accessFlags := 1, code := none }
/-- java/lang/Object -/
def k0 : Class := { plain "java/lang/Object" none with
  accessFlags := 33
  interfaces := #[]
  cf := some (fileOf pool0 8 #[] #[{ accessFlags := 1, nameIndex := 5, descriptorIndex := 6, attributes := #[] }] 33 0 #[] #[])
  fields := #[]
  methods := #[k0m0]
  instanceTypes := #[]
  staticTypes := #[]
  resolved := Array.replicate 124 none
  statics := none }

def pool1 : Array CpInfo := pool [(2, .class_ 4), (1, u "java/lang/Object"), (0, u "<init>"), (0, u "()V"), (0, .integer 33032), (0, .integer 37256), (0, .integer 65535), (0, .methodref 11 12), (0, .class_ 13), (0, .nameAndType 14 15), (0, u "com/example/motewire/motewire/io/TinyOsFramesChecksumPinLaw"), (0, u "t"), (0, u "(I)I"), (0, .methodref 17 18), (0, .class_ 19), (0, .nameAndType 20 21), (0, u "java/lang/Math"), (0, u "min"), (0, u "(II)I"), (0, .methodref 11 23), (0, .nameAndType 24 21), (0, u "step"), (0, .methodref 26 27), (0, .class_ 28), (0, .nameAndType 29 30), (0, u "com/example/motewire/motewire/io/TinyOsFrames"), (0, u "checksum"), (0, u "([BII)I"), (3, u "law"), (0, u "(IIIIII)Z")] 4

def k1m0 : Method := { name := "<init>", desc := "()V", sig := { parameters := [], returnType := none }, accessFlags := 2, code := none }
def k1c1 : Code := { maxStack := 2, maxLocals := 2, code := method_2_code, exceptionTable := #[], attributes := #[] }
def k1m1 : Method := { name := "t", desc := "(I)I", sig := { parameters := [.int], returnType := some .int }, accessFlags := 10, code := some k1c1 }
def k1c2 : Code := { maxStack := 3, maxLocals := 2, code := method_3_code, exceptionTable := #[], attributes := #[] }
def k1m2 : Method := { name := "step", desc := "(II)I", sig := { parameters := [.int, .int], returnType := some .int }, accessFlags := 10, code := some k1c2 }
def k1c3 : Code := { maxStack := 4, maxLocals := 10, code := code, exceptionTable := #[], attributes := #[] }
def k1m3 : Method := { name := "law", desc := "(IIIIII)Z", sig := { parameters := [.int, .int, .int, .int, .int, .int], returnType := some .boolean }, accessFlags := 9, code := some k1c3 }
/-- com/example/motewire/motewire/io/TinyOsFramesChecksumPinLaw -/
def k1 : Class := { plain "com/example/motewire/motewire/io/TinyOsFramesChecksumPinLaw" (some 0) with
  accessFlags := 49
  interfaces := #[]
  cf := some (fileOf pool1 11 #[] #[{ accessFlags := 2, nameIndex := 5, descriptorIndex := 6, attributes := #[] }, { accessFlags := 10, nameIndex := 14, descriptorIndex := 15, attributes := #[] }, { accessFlags := 10, nameIndex := 24, descriptorIndex := 21, attributes := #[] }, { accessFlags := 9, nameIndex := 34, descriptorIndex := 35, attributes := #[] }] 49 2 #[] #[])
  fields := #[]
  methods := #[k1m0, k1m1, k1m2, k1m3]
  instanceTypes := #[]
  staticTypes := #[]
  resolved := Array.replicate 40 none
  statics := none }

def pool2 : Array CpInfo := pool [(1, .class_ 2), (0, u "java/lang/Math"), (1, .class_ 6), (1, u "java/lang/Object"), (0, u "<init>"), (0, u "()V"), (89, .class_ 100), (1, u "java/lang/Math$RandomNumberGeneratorHolder"), (71, u "negativeZeroFloatBits"), (0, u "J"), (2, u "negativeZeroDoubleBits"), (24, u "min"), (43, u "$assertionsDisabled"), (0, u "Z"), (88, u "(II)I"), (2, u "twoToTheDoubleScaleDown"), (0, u "D"), (4, u "twoToTheDoubleScaleUp"), (9, u "E"), (3, u "PI"), (2, u "TAU"), (2, u "DEGREES_TO_RADIANS"), (0, u "RADIANS_TO_DEGREES")] 94

def k2m0 : Method := { name := "<init>", desc := "()V", sig := { parameters := [], returnType := none }, accessFlags := 2, code := none }
def k2c1 : Code := { maxStack := 2, maxLocals := 2, code := jdk_29_method_69_code, exceptionTable := #[], attributes := #[] }
def k2m1 : Method := { name := "min", desc := "(II)I", sig := { parameters := [.int, .int], returnType := some .int }, accessFlags := 9, code := some k2c1 }
/-- java/lang/Math -/
def k2 : Class := { plain "java/lang/Math" (some 0) with
  accessFlags := 49
  interfaces := #[]
  cf := some (fileOf pool2 1 #[.nestMembers #[98]] #[{ accessFlags := 2, nameIndex := 7, descriptorIndex := 8, attributes := #[] }, { accessFlags := 9, nameIndex := 201, descriptorIndex := 335, attributes := #[] }] 49 4 #[] #[{ accessFlags := 25, nameIndex := 354, descriptorIndex := 339, attributes := #[] }, { accessFlags := 25, nameIndex := 358, descriptorIndex := 339, attributes := #[] }, { accessFlags := 25, nameIndex := 361, descriptorIndex := 339, attributes := #[] }, { accessFlags := 26, nameIndex := 364, descriptorIndex := 339, attributes := #[] }, { accessFlags := 26, nameIndex := 365, descriptorIndex := 339, attributes := #[] }, { accessFlags := 26, nameIndex := 172, descriptorIndex := 173, attributes := #[] }, { accessFlags := 26, nameIndex := 176, descriptorIndex := 173, attributes := #[] }, { accessFlags := 8, nameIndex := 344, descriptorIndex := 339, attributes := #[] }, { accessFlags := 8, nameIndex := 338, descriptorIndex := 339, attributes := #[] }, { accessFlags := 4120, nameIndex := 245, descriptorIndex := 246, attributes := #[] }])
  fields := #[{ name := "E", type := .double, accessFlags := 25, slot := 0, constantValue := 0 }, { name := "PI", type := .double, accessFlags := 25, slot := 1, constantValue := 0 }, { name := "TAU", type := .double, accessFlags := 25, slot := 2, constantValue := 0 }, { name := "DEGREES_TO_RADIANS", type := .double, accessFlags := 26, slot := 3, constantValue := 0 }, { name := "RADIANS_TO_DEGREES", type := .double, accessFlags := 26, slot := 4, constantValue := 0 }, { name := "negativeZeroFloatBits", type := .long, accessFlags := 26, slot := 5, constantValue := 0 }, { name := "negativeZeroDoubleBits", type := .long, accessFlags := 26, slot := 6, constantValue := 0 }, { name := "twoToTheDoubleScaleUp", type := .double, accessFlags := 8, slot := 7, constantValue := 0 }, { name := "twoToTheDoubleScaleDown", type := .double, accessFlags := 8, slot := 8, constantValue := 0 }, { name := "$assertionsDisabled", type := .boolean, accessFlags := 4120, slot := 9, constantValue := 0 }]
  methods := #[k2m0, k2m1]
  instanceTypes := #[]
  staticTypes := #[.double, .double, .double, .double, .double, .long, .long, .double, .double, .boolean]
  resolved := Array.replicate 460 none
  statics := none }

def pool3 : Array CpInfo := pool [(2, .class_ 4), (1, u "java/lang/Object"), (0, u "<init>"), (0, u "()V"), (1, .class_ 10), (1, u "com/example/motewire/motewire/io/TinyOsFrames"), (0, u "checksum"), (0, u "([BII)I"), (33, .integer 32768), (0, .integer 65535), (0, u "DELIMITER"), (0, u "I"), (2, u "ESCAPE"), (1, u "ESCAPE_XOR"), (1, u "ACK"), (1, u "PACKET_ACK_WANTED"), (1, u "PACKET_NO_ACK"), (1, u "POLYNOMIAL")] 11

def k3m0 : Method := { name := "<init>", desc := "()V", sig := { parameters := [], returnType := none }, accessFlags := 2, code := none }
def k3c1 : Code := { maxStack := 3, maxLocals := 6, code := prog_29_method_5_code, exceptionTable := #[], attributes := #[] }
def k3m1 : Method := { name := "checksum", desc := "([BII)I", sig := { parameters := [(.array .byte), .int, .int], returnType := some .int }, accessFlags := 9, code := some k3c1 }
/-- com/example/motewire/motewire/io/TinyOsFrames -/
def k3 : Class := { plain "com/example/motewire/motewire/io/TinyOsFrames" (some 0) with
  accessFlags := 49
  interfaces := #[]
  cf := some (fileOf pool3 8 #[] #[{ accessFlags := 2, nameIndex := 5, descriptorIndex := 6, attributes := #[] }, { accessFlags := 9, nameIndex := 11, descriptorIndex := 12, attributes := #[] }] 49 2 #[] #[{ accessFlags := 24, nameIndex := 48, descriptorIndex := 49, attributes := #[] }, { accessFlags := 24, nameIndex := 52, descriptorIndex := 49, attributes := #[] }, { accessFlags := 24, nameIndex := 54, descriptorIndex := 49, attributes := #[] }, { accessFlags := 24, nameIndex := 56, descriptorIndex := 49, attributes := #[] }, { accessFlags := 24, nameIndex := 58, descriptorIndex := 49, attributes := #[] }, { accessFlags := 24, nameIndex := 60, descriptorIndex := 49, attributes := #[] }, { accessFlags := 26, nameIndex := 62, descriptorIndex := 49, attributes := #[] }])
  fields := #[{ name := "DELIMITER", type := .int, accessFlags := 24, slot := 0, constantValue := 0 }, { name := "ESCAPE", type := .int, accessFlags := 24, slot := 1, constantValue := 0 }, { name := "ESCAPE_XOR", type := .int, accessFlags := 24, slot := 2, constantValue := 0 }, { name := "ACK", type := .int, accessFlags := 24, slot := 3, constantValue := 0 }, { name := "PACKET_ACK_WANTED", type := .int, accessFlags := 24, slot := 4, constantValue := 0 }, { name := "PACKET_NO_ACK", type := .int, accessFlags := 24, slot := 5, constantValue := 0 }, { name := "POLYNOMIAL", type := .int, accessFlags := 26, slot := 6, constantValue := 0 }]
  methods := #[k3m0, k3m1]
  instanceTypes := #[]
  staticTypes := #[.int, .int, .int, .int, .int, .int, .int]
  resolved := Array.replicate 74 none
  statics := none }

def pool4 : Array CpInfo := pool [(1, u "java/lang/Cloneable"), (0, .class_ 1), (0, u "java/lang/Object"), (0, .class_ 3)] 3

/-- java/lang/Cloneable -/
def k4 : Class := { plain "java/lang/Cloneable" (some 0) with
  accessFlags := 1537
  interfaces := #[]
  cf := some (fileOf pool4 2 #[] #[] 1537 4 #[] #[])
  fields := #[]
  methods := #[]
  instanceTypes := #[]
  staticTypes := #[]
  resolved := Array.replicate 8 none
  statics := none }

def pool5 : Array CpInfo := pool [(1, u "java/io/Serializable"), (0, .class_ 1), (0, u "java/lang/Object"), (0, .class_ 3)] 3

/-- java/io/Serializable -/
def k5 : Class := { plain "java/io/Serializable" (some 0) with
  accessFlags := 1537
  interfaces := #[]
  cf := some (fileOf pool5 2 #[] #[] 1537 4 #[] #[])
  fields := #[]
  methods := #[]
  instanceTypes := #[]
  staticTypes := #[]
  resolved := Array.replicate 8 none
  statics := none }

/-- the primitive byte -/
def k6 : Class := { plain "byte" none with kind := .primitive 'B', accessFlags := 0x411 }
/-- [B -/
def k7 : Class := { plain "[B" (some 0) with kind := .array 6 .byte, interfaces := #[4, 5], accessFlags := 1041 }

/-- the primitive int -/
def k8 : Class := { plain "int" none with kind := .primitive 'I', accessFlags := 0x411 }
/-- [I -/
def k9 : Class := { plain "[I" (some 0) with kind := .array 8 .int, interfaces := #[4, 5], accessFlags := 1041 }

def heap : Heap := #[]
def classes : Array Class := #[k0, k1, k2, k3, k4, k5, k6, k7, k8, k9]
def interned : List (Array UInt16 × Addr) := []
def slotsUsed : Nat := 0
def theMethod : MethodId := ⟨1, 3⟩
def args0 : Array Value := #[.int 3, .int 1, .int 7, .int 2, .int 9, .int 13]
def aboutOver (below : List Frame) : State where
  vm := { classes := classes, interned := interned.toArray }
  heap := heap
  slotsUsed := slotsUsed
  threads := #[{ frames := .invoking theMethod args0 :: below }]
def below0 : List Frame := [.native { method := ⟨0, 0⟩, args := #[] }]
def about1 : State := aboutOver below0
def p0 : Program := .bare "" "" ""
def e0 : Env := launch0.env 0 0 0
theorem w_frames : about1.frames = Frame.invoking theMethod args0 :: below0 := rfl
set_option maxRecDepth 65536 in
theorem w_args : argsFit about1.vm theMethod args0 = true := by decide +kernel
set_option maxRecDepth 65536 in
theorem w_heap : heapFits about1 = true := by decide +kernel
set_option maxRecDepth 65536 in
theorem w_runnable : about1.curStatus? = some .runnable := by decide +kernel
set_option maxRecDepth 65536 in
theorem w_alone : about1.alone = true := by decide +kernel
set_option maxRecDepth 65536 in
theorem w_named : about1.methodNamed? x = some theMethod := by decide +kernel
set_option maxRecDepth 65536 in
theorem w_hears : about1.hears theMethod below0 = true := by decide +kernel
set_option maxRecDepth 65536 in
theorem w_ripe : about1.ripe theMethod args0 below0 = true := by decide +kernel
theorem w_running : about1.status = .running := rfl
set_option maxRecDepth 65536 in
theorem w_room : about1.hasRoom e0.platform room_1 = true :=
  launch0.hasRoom_least _ room_1 (by decide +kernel) (by decide +kernel) (by decide +kernel) (by decide +kernel) (by decide +kernel) (by decide +kernel)
theorem allAtoms_all (ts : List Jvm.Cond) (a : Array Jvm.Value) (st : Jvm.State) : (allAtoms ts).before a st = ts.all (fun c => c.before a st) := by
  induction ts with
  | nil => rfl
  | cons c t ih =>
    show (Jvm.Cond.and c (allAtoms t)).before a st = _
    rw [Jvm.Cond.before_and, ih, List.all_cons]
def words1 : List Jvm.Cond := Jvm.Cond.code x code maxLocals ret :: tables_1
/-- a 'code' word, met by the world's own term for the bytes: nothing is compared byte by byte -/
theorem code_word {y : MethodName} {bytes : ByteArray} {mx : Nat} {rt : Option FieldType} {a : Array Value} {s : State} {m : MethodId} {meth : Method} {c : Code} (h1 : s.methodNamed? y = some m) (h2 : s.vm.method? m = some meth) (h3 : meth.code = some c) (h4 : c.code = bytes)
    (h5 : (c.maxLocals == mx && c.exceptionTable.isEmpty && decide (c.maxStack ≤ mostOperands) && decide (meth.sig.returnType = rt) && !meth.locks && decide (parseMethodDescriptor y.desc = some meth.sig)) = true) : (Jvm.Cond.code y bytes mx rt).before a s = true := by
  simp only [Bool.and_eq_true, beq_iff_eq, Bool.not_eq_true', decide_eq_true_eq] at h5
  obtain ⟨⟨⟨⟨⟨g1, g2⟩, g3⟩, g4⟩, g5⟩, g6⟩ := h5
  simp [Cond.before, Cond.holds, Cond.value, h1, h2, h3, h4, g1, g2, g3, g4, g5, g6]
def isCode : Jvm.Cond → Bool
  | .code _ _ _ _ => true
  | _ => false
theorem all_split {L : List Jvm.Cond} {P : Jvm.Cond → Bool} (h1 : L.all (fun c => isCode c || P c) = true) (h2 : ∀ c ∈ L.filter isCode, P c = true) : L.all P = true := by
  refine List.all_eq_true.mpr fun c hc => ?_
  have h := List.all_eq_true.mp h1 c hc
  rcases Bool.eq_false_or_eq_true (isCode c) with hi | hi
  · exact h2 c (List.mem_filter.mpr ⟨hc, hi⟩)
  · simpa [hi] using h
set_option maxRecDepth 65536 in
theorem w_c0 : (Jvm.Cond.code x code maxLocals ret).before args0 about1 = true := code_word (m := ⟨1, 3⟩) (meth := k1m3) (c := k1c3) (by decide +kernel) rfl rfl rfl (by decide +kernel)
set_option maxRecDepth 65536 in
theorem w_c1 : (Jvm.Cond.code ({ cls := "java/lang/Math", name := "min", desc := "(II)I" } : Jvm.MethodName) jdk_29_method_69_code (2 : Nat) (Option.some Jvm.ClassFile.FieldType.int)).before args0 about1 = true := code_word (m := ⟨2, 1⟩) (meth := k2m1) (c := k2c1) (by decide +kernel) rfl rfl rfl (by decide +kernel)
set_option maxRecDepth 65536 in
theorem w_c2 : (Jvm.Cond.code ({ cls := "com/example/motewire/motewire/io/TinyOsFrames", name := "checksum", desc := "([BII)I" } : Jvm.MethodName) prog_29_method_5_code (6 : Nat) (Option.some Jvm.ClassFile.FieldType.int)).before args0 about1 = true := code_word (m := ⟨3, 1⟩) (meth := k3m1) (c := k3c1) (by decide +kernel) rfl rfl rfl (by decide +kernel)
set_option maxRecDepth 65536 in
theorem w_c3 : (Jvm.Cond.code ({ cls := "com/example/motewire/motewire/io/TinyOsFramesChecksumPinLaw", name := "step", desc := "(II)I" } : Jvm.MethodName) method_3_code (2 : Nat) (Option.some Jvm.ClassFile.FieldType.int)).before args0 about1 = true := code_word (m := ⟨1, 2⟩) (meth := k1m2) (c := k1c2) (by decide +kernel) rfl rfl rfl (by decide +kernel)
set_option maxRecDepth 65536 in
theorem w_c4 : (Jvm.Cond.code ({ cls := "com/example/motewire/motewire/io/TinyOsFramesChecksumPinLaw", name := "t", desc := "(I)I" } : Jvm.MethodName) method_2_code (2 : Nat) (Option.some Jvm.ClassFile.FieldType.int)).before args0 about1 = true := code_word (m := ⟨1, 1⟩) (meth := k1m1) (c := k1c1) (by decide +kernel) rfl rfl rfl (by decide +kernel)
def codes1 : List Jvm.Cond := [Jvm.Cond.code x code maxLocals ret, Jvm.Cond.code ({ cls := "java/lang/Math", name := "min", desc := "(II)I" } : Jvm.MethodName) jdk_29_method_69_code (2 : Nat) (Option.some Jvm.ClassFile.FieldType.int), Jvm.Cond.code ({ cls := "com/example/motewire/motewire/io/TinyOsFrames", name := "checksum", desc := "([BII)I" } : Jvm.MethodName) prog_29_method_5_code (6 : Nat) (Option.some Jvm.ClassFile.FieldType.int), Jvm.Cond.code ({ cls := "com/example/motewire/motewire/io/TinyOsFramesChecksumPinLaw", name := "step", desc := "(II)I" } : Jvm.MethodName) method_3_code (2 : Nat) (Option.some Jvm.ClassFile.FieldType.int), Jvm.Cond.code ({ cls := "com/example/motewire/motewire/io/TinyOsFramesChecksumPinLaw", name := "t", desc := "(I)I" } : Jvm.MethodName) method_2_code (2 : Nat) (Option.some Jvm.ClassFile.FieldType.int)]
set_option maxRecDepth 65536 in
theorem codes_eq : words1.filter isCode = codes1 := rfl
theorem w_codes : ∀ c ∈ words1.filter isCode, c.before args0 about1 = true := by
  rw [codes_eq]
  intro c hc
  simp only [codes1, List.mem_cons, List.not_mem_nil, or_false] at hc
  rcases hc with rfl | rfl | rfl | rfl | rfl
  · exact w_c0
  · exact w_c1
  · exact w_c2
  · exact w_c3
  · exact w_c4
set_option maxRecDepth 65536 in
theorem w_t1 : words1.all (fun c => isCode c || c.before args0 about1) = true := by decide +kernel
theorem w_tables : (allAtoms (Jvm.Cond.code x code maxLocals ret :: tables_1)).before args0 about1 = true := by
  rw [allAtoms_all]
  show words1.all (fun c => c.before args0 about1) = true
  refine all_split ?_ w_codes
  rw [w_t1]
set_option maxRecDepth 65536 in
theorem w_case : (Jvm.Cond.and given_1 narrow_1).before args0 about1 = true := by decide +kernel
theorem w_applies : (headSpec (Jvm.Cond.code x code maxLocals ret :: tables_1) room_1).applies x e0.platform about1 = true :=
  (Spec.applies_iff w_frames).mpr ⟨w_running, w_runnable, w_alone, w_named, w_hears, w_ripe, w_room, w_tables⟩
theorem atStart : AtStart classFile x code maxLocals ret World_1 tables_1 room_1 Calls_1 rest_1 Pre_1 launch0 p0 e0 about1 theMethod args0 below0 :=
  ⟨lists_1, trivial, launch0.admits_env _ _ _, launch0.least_env, fairChoices_fair.cas, fairChoices_fair.clock, w_frames, w_args, w_heap, w_applies, trivial, trivial, w_case⟩
end start1
theorem witness_1 : WitnessClaimed_1 := ⟨start1.p0, start1.e0, start1.about1, start1.theMethod, start1.args0, start1.below0, start1.atStart⟩
end Jvm.Pilot.@@N@@
