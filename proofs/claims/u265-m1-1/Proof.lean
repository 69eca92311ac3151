import JvmDerived
import JvmDerived.Pilot.@@N@@Statement
import JvmDerived.Pilot.@@N@@Code
set_option linter.unusedVariables false
set_option linter.unusedSimpArgs false
@@BLOCK:LamKit.lean.txt@@
namespace Jvm.Pilot.@@N@@
open Jvm Jvm.ClassFile Sem Op Lib Jvm.Free Jvm.Stand Jvm.LawKit Jvm.RoadKit Bundle Jvm.Pilot.@@N@@.Jvm.D
section OwnKit
variable {p : Program} {l : Launch} {e : Env} {R : Room} {s : State} {m : MethodId} {args : Array Value} {below : List Frame} {meth : Method} {c : Code} {T : State} {locs : List Loc} {cells slots : Nat} {Z : State} {a0 : Array Value} {h : Heap} {W : State → Prop} {pc q : Nat} {Ls : Array Slot} {St : List Value}
/-- the run comes from S to an end of which W holds -/
def Go (p : Program) (e : Env) (below : List Frame) (W : State → Prop) (S : State) : Prop := ∃ U, Steps p.tables e below S U ∧ W U
theorem Go.on {S S' : State} (k : ∀ t, Steps p.tables e below S' t → Steps p.tables e below S t) (h : Go p e below W S') : Go p e below W S := by
  obtain ⟨U, h1, h2⟩ := h; exact ⟨U, k U h1, h2⟩
/-- what a body must leave -/
def Wd (s : State) (below : List Frame) (Q : Option Value → Heap → List Loc → Prop) (k n : Nat) (U : State) : Prop := U.status = .running ∧ ∃ v, Ended U below (.returned v) ∧ ∃ L, Q v U.heap L ∧ FrameEnd s (.returned v) U L k n
/-- a body's contract: from the heap h0 and the arguments as' it returns as Q says -/
def Con (l : Launch) (Z : State) (h0 : Heap) (y : MethodName) (bytes : ByteArray) (ml : Nat) (ret : Option FieldType) (rm : Room) (as' : Array Value) (Q : Option Value → Heap → List Loc → Prop) : Prop :=
  ∀ ws : List Jvm.Cond, MetFree l y (head1 (Jvm.Cond.code y bytes ml ret :: ws) rm) (fun a U => a = as' ∧ Z.Warmed39 U.vm ∧ U.heap = h0) (fun _ _ _ _ _ => True) (fun _ U o U' => ∃ v L, o = .returned v ∧ Q v U'.heap L ∧ FrameEnd U o U' L rm.cells rm.slots)
/-- it returns V and touches nothing -/
def Pur (V : Option Value) (h0 : Heap) (v : Option Value) (h : Heap) (L : List Loc) : Prop := v = V ∧ L = [] ∧ h = h0
theorem con_of {h0 : Heap} {y : MethodName} {bytes : ByteArray} {ml : Nat} {ret : Option FieldType} {rm : Room} {as' : Array Value} {Q : Option Value → Heap → List Loc → Prop} (hpl : plainFor y = true) {Ls : Array Slot}
    (hef : ∀ m : MethodId, entryFrame m as' ml = mkF m 0 Ls [])
    (body : ∀ (p : Program) (e : Env) (s : State) (m : MethodId) (below : List Frame) (meth : Method) (c : Code) (s₁ : State), p.tables.exec = Jvm.exec → Z.Warmed39 s.vm → c.code = bytes → c.maxLocals = ml → meth.sig.returnType = ret → meth.locks = false → meth.name = y.name → s.vm.findClass y.cls = some m.cls →
      Stand p l e rm s m as' below meth c s₁ [] 0 0 → s₁.heap = h0 → Go p e below (Wd s below Q rm.cells rm.slots) (s₁.setTop (mkF m 0 Ls []))) : Con l Z h0 y bytes ml ret rm as' Q := by
  intro ws
  refine MetFree.of_bodySF hpl hisR ?_
  intro p e s m args below meth c s₁ Bd hml0 hP hK
  obtain ⟨rfl, hZ, hh⟩ := hP
  obtain ⟨U, h1, h2, v, h3, L, h4, h5⟩ := body p e s m below meth c s₁ Bd.exec hZ Bd.bytes hml0 Bd.returns Bd.notSynchronized (name_of_methodNamed Bd.named Bd.method).1 (findClass_of_methodNamed Bd.named) (Stand.of_body Bd) (by rw [← hh, Bd.state]; rfl)
  rw [← hef] at h1
  exact ⟨U, _, h1, h2, h3, v, L, rfl, h4, h5⟩
theorem g_leave (X : Stand p l e R s m args below meth c T locs cells slots) {v : Option Value} (hv : meth.sig.returnType = none → v = none) (hlk : meth.locks = false) {S : State} {Q : Option Value → Heap → List Loc → Prop} {k n : Nat}
    (st : ∀ fs, (∀ (f : JFrame) (acts : List Action), f.method = m → f.locked = none → f.entered = [] → (doReturn e (T.setTop f) acts v).1 = T.setFrames fs) → Steps p.tables e below S (T.setFrames fs))
    (hQ : Q v T.heap locs) (hk : cells ≤ k) (hn : slots ≤ n) : Go p e below (Wd s below Q k n) S := by
  obtain ⟨fs, hr, hrun, hended, hW, hsame⟩ := X.leave (v := v) hv hlk
  exact ⟨_, st fs hr, hrun, v, hended, locs, hQ, ⟨_, rfl⟩, hW, hsame.mono hk hn⟩
section Leaves
variable {Q : Option Value → Heap → List Loc → Prop} {k n : Nat}
theorem g_retZ (X : Stand p l e R s m args below meth c T locs cells slots) (hx : p.tables.exec = Jvm.exec) {t : FieldType} {z : Int32} (hret : meth.sig.returnType = some t) (hlk : meth.locks = false) (hd : decode c.code pc = .ok (.ireturn, 1)) (ht : t = .int ∨ t = .boolean ∨ t = .byte ∨ t = .char ∨ t = .short) (hn' : narrow t (.int z) = .int z)
    (hQ : Q (some (.int z)) T.heap locs) (hk : cells ≤ k) (hn : slots ≤ n) : Go p e below (Wd s below Q k n) (T.setTop (mkF m pc Ls (.int z :: St))) :=
  g_leave X (fun h => by rw [hret] at h; cases h) hlk (fun fs hr => retOut X hx hret hn' (Or.inl ⟨rfl, ht, z, rfl⟩) hd hr) hQ hk hn
theorem g_retI (X : Stand p l e R s m args below meth c T locs cells slots) (hx : p.tables.exec = Jvm.exec) {z : Int32} (hret : meth.sig.returnType = some .int) (hlk : meth.locks = false) (hd : decode c.code pc = .ok (.ireturn, 1))
    (hQ : Q (some (.int z)) T.heap locs) (hk : cells ≤ k) (hn : slots ≤ n) : Go p e below (Wd s below Q k n) (T.setTop (mkF m pc Ls (.int z :: St))) :=
  g_retZ X hx hret hlk hd (Or.inl rfl) rfl hQ hk hn
theorem g_retB (X : Stand p l e R s m args below meth c T locs cells slots) (hx : p.tables.exec = Jvm.exec) {z : Int32} (hret : meth.sig.returnType = some .boolean) (hlk : meth.locks = false) (hd : decode c.code pc = .ok (.ireturn, 1)) (hz : z = 0 ∨ z = 1)
    (hQ : Q (some (.int z)) T.heap locs) (hk : cells ≤ k) (hn : slots ≤ n) : Go p e below (Wd s below Q k n) (T.setTop (mkF m pc Ls (.int z :: St))) :=
  g_retZ X hx hret hlk hd (Or.inr (Or.inl rfl)) (by rcases hz with rfl | rfl <;> rfl) hQ hk hn
theorem g_retJ (X : Stand p l e R s m args below meth c T locs cells slots) (hx : p.tables.exec = Jvm.exec) {z : Int64} (hret : meth.sig.returnType = some .long) (hlk : meth.locks = false) (hd : decode c.code pc = .ok (.lreturn, 1))
    (hQ : Q (some (.long z)) T.heap locs) (hk : cells ≤ k) (hn : slots ≤ n) : Go p e below (Wd s below Q k n) (T.setTop (mkF m pc Ls (.long z :: St))) :=
  g_leave X (fun h => by rw [hret] at h; cases h) hlk (fun fs hr => retOut X hx hret rfl (Or.inr (Or.inl ⟨rfl, rfl, z, rfl⟩)) hd hr) hQ hk hn
theorem g_retA (X : Stand p l e R s m args below meth c T locs cells slots) (hx : p.tables.exec = Jvm.exec) {t : FieldType} {w : Value} (hret : meth.sig.returnType = some t) (hlk : meth.locks = false) (hd : decode c.code pc = .ok (.areturn, 1)) (ht : t.isReference = true) (hw : w.isRef = true) (hn' : narrow t w = w)
    (hQ : Q (some w) T.heap locs) (hk : cells ≤ k) (hn : slots ≤ n) : Go p e below (Wd s below Q k n) (T.setTop (mkF m pc Ls (w :: St))) :=
  g_leave X (fun h => by rw [hret] at h; cases h) hlk (fun fs hr => retOut X hx hret hn' (Or.inr (Or.inr (Or.inr (Or.inr ⟨rfl, ht, hw⟩)))) hd hr) hQ hk hn
theorem g_retV (X : Stand p l e R s m args below meth c T locs cells slots) (hx : p.tables.exec = Jvm.exec) (hret : meth.sig.returnType = none) (hlk : meth.locks = false) (hd : decode c.code pc = .ok (.return_, 1))
    (hQ : Q none T.heap locs) (hk : cells ≤ k) (hn : slots ≤ n) : Go p e below (Wd s below Q k n) (T.setTop (mkF m pc Ls [])) :=
  g_leave X (fun _ => rfl) hlk (fun fs hr => X.returnOut hx hret hd hr) hQ hk hn
end Leaves
section Plain
theorem g_iload (X : Stand p l e R s m args below meth c T locs cells slots) (hx : p.tables.exec = Jvm.exec) {k : Nat} {v : Int32} (hd : decode c.code pc = .ok (.iload k, 2)) (hl : Ls[k]? = some (.val (.int v))) (hq : pc + 2 = q) (G : Go p e below W (T.setTop (mkF m q Ls (.int v :: St)))) : Go p e below W (T.setTop (mkF m pc Ls St)) := by
  subst hq; exact G.on fun t k' => XS.iload X.here hx rfl hd hl k'
theorem g_lload (X : Stand p l e R s m args below meth c T locs cells slots) (hx : p.tables.exec = Jvm.exec) {k : Nat} {v : Int64} (hd : decode c.code pc = .ok (.lload k, 2)) (hl : Ls[k]? = some (.val (.long v))) (hq : pc + 2 = q) (G : Go p e below W (T.setTop (mkF m q Ls (.long v :: St)))) : Go p e below W (T.setTop (mkF m pc Ls St)) := by
  subst hq; exact G.on fun t k' => XS.lload X.here hx rfl hd hl k'
theorem g_aload (X : Stand p l e R s m args below meth c T locs cells slots) (hx : p.tables.exec = Jvm.exec) {k : Nat} {v : Value} (hd : decode c.code pc = .ok (.aload k, 2)) (hl : Ls[k]? = some (.val v)) (hv : v.isRef = true) (hq : pc + 2 = q) (G : Go p e below W (T.setTop (mkF m q Ls (v :: St)))) : Go p e below W (T.setTop (mkF m pc Ls St)) := by
  subst hq; exact G.on fun t k' => XS.aload X.here hx rfl hd hl hv k'
theorem g_istore (X : Stand p l e R s m args below meth c T locs cells slots) (hx : p.tables.exec = Jvm.exec) {k : Nat} {x : Int32} {L' : Array Slot} (hd : decode c.code pc = .ok (.istore k, 2)) (hl : storeLocals Ls k (.int x) = some L') (hq : pc + 2 = q) (G : Go p e below W (T.setTop (mkF m q L' St))) : Go p e below W (T.setTop (mkF m pc Ls (.int x :: St))) := by
  subst hq; exact G.on fun t k' => XS.istore X.here hx rfl hd rfl hl k'
theorem g_lstore (X : Stand p l e R s m args below meth c T locs cells slots) (hx : p.tables.exec = Jvm.exec) {k : Nat} {x : Int64} {L' : Array Slot} (hd : decode c.code pc = .ok (.lstore k, 2)) (hl : storeLocals Ls k (.long x) = some L') (hq : pc + 2 = q) (G : Go p e below W (T.setTop (mkF m q L' St))) : Go p e below W (T.setTop (mkF m pc Ls (.long x :: St))) := by
  subst hq; exact G.on fun t k' => XS.lstore X.here hx rfl hd rfl hl k'
theorem g_astore (X : Stand p l e R s m args below meth c T locs cells slots) (hx : p.tables.exec = Jvm.exec) {k : Nat} {x : Value} {L' : Array Slot} (hd : decode c.code pc = .ok (.astore k, 2)) (hv : x.isRef = true) (hl : storeLocals Ls k x = some L') (hq : pc + 2 = q) (G : Go p e below W (T.setTop (mkF m q L' St))) : Go p e below W (T.setTop (mkF m pc Ls (x :: St))) := by
  subst hq; exact G.on fun t k' => XS.astore X.here hx rfl hd rfl hv hl k'
theorem g_iloadN (X : Stand p l e R s m args below meth c T locs cells slots) (hx : p.tables.exec = Jvm.exec) {k : Fin 4} {v : Int32} (hd : decode c.code pc = .ok (.iload_n k, 1)) (hl : Ls[k.val]? = some (.val (.int v))) (hq : pc + 1 = q) (G : Go p e below W (T.setTop (mkF m q Ls (.int v :: St)))) : Go p e below W (T.setTop (mkF m pc Ls St)) := by
  subst hq; exact G.on fun t k' => XS.iloadN X.here hx rfl hd hl k'
theorem g_lloadN (X : Stand p l e R s m args below meth c T locs cells slots) (hx : p.tables.exec = Jvm.exec) {k : Fin 4} {v : Int64} (hd : decode c.code pc = .ok (.lload_n k, 1)) (hl : Ls[k.val]? = some (.val (.long v))) (hq : pc + 1 = q) (G : Go p e below W (T.setTop (mkF m q Ls (.long v :: St)))) : Go p e below W (T.setTop (mkF m pc Ls St)) := by
  subst hq; exact G.on fun t k' => XS.lloadN X.here hx rfl hd hl k'
theorem g_aloadN (X : Stand p l e R s m args below meth c T locs cells slots) (hx : p.tables.exec = Jvm.exec) {k : Fin 4} {v : Value} (hd : decode c.code pc = .ok (.aload_n k, 1)) (hl : Ls[k.val]? = some (.val v)) (hv : v.isRef = true) (hq : pc + 1 = q) (G : Go p e below W (T.setTop (mkF m q Ls (v :: St)))) : Go p e below W (T.setTop (mkF m pc Ls St)) := by
  subst hq; exact G.on fun t k' => XS.aloadN X.here hx rfl hd hl hv k'
theorem g_istoreN (X : Stand p l e R s m args below meth c T locs cells slots) (hx : p.tables.exec = Jvm.exec) {k : Fin 4} {x : Int32} {L' : Array Slot} (hd : decode c.code pc = .ok (.istore_n k, 1)) (hl : storeLocals Ls k.val (.int x) = some L') (hq : pc + 1 = q) (G : Go p e below W (T.setTop (mkF m q L' St))) : Go p e below W (T.setTop (mkF m pc Ls (.int x :: St))) := by
  subst hq; exact G.on fun t k' => XS.istoreN X.here hx rfl hd rfl hl k'
theorem g_lstoreN (X : Stand p l e R s m args below meth c T locs cells slots) (hx : p.tables.exec = Jvm.exec) {k : Fin 4} {x : Int64} {L' : Array Slot} (hd : decode c.code pc = .ok (.lstore_n k, 1)) (hl : storeLocals Ls k.val (.long x) = some L') (hq : pc + 1 = q) (G : Go p e below W (T.setTop (mkF m q L' St))) : Go p e below W (T.setTop (mkF m pc Ls (.long x :: St))) := by
  subst hq; exact G.on fun t k' => XS.lstoreN X.here hx rfl hd rfl hl k'
theorem g_astoreN (X : Stand p l e R s m args below meth c T locs cells slots) (hx : p.tables.exec = Jvm.exec) {k : Fin 4} {x : Value} {L' : Array Slot} (hd : decode c.code pc = .ok (.astore_n k, 1)) (hv : x.isRef = true) (hl : storeLocals Ls k.val x = some L') (hq : pc + 1 = q) (G : Go p e below W (T.setTop (mkF m q L' St))) : Go p e below W (T.setTop (mkF m pc Ls (x :: St))) := by
  subst hq; exact G.on fun t k' => XS.astoreN X.here hx rfl hd rfl hv hl k'
theorem g_iconst (X : Stand p l e R s m args below meth c T locs cells slots) (hx : p.tables.exec = Jvm.exec) {i : Int} {n : Int32} (hd : decode c.code pc = .ok (.iconst i, 1)) (hn : Int32.ofInt i = n) (hq : pc + 1 = q) (G : Go p e below W (T.setTop (mkF m q Ls (.int n :: St)))) : Go p e below W (T.setTop (mkF m pc Ls St)) := by
  subst hq; subst hn; exact G.on fun t k' => XS.iconst X.here hx rfl hd k'
theorem g_bipush (X : Stand p l e R s m args below meth c T locs cells slots) (hx : p.tables.exec = Jvm.exec) {i : Int} {n : Int32} (hd : decode c.code pc = .ok (.bipush i, 2)) (hn : (Int8.ofInt i).toInt32 = n) (hq : pc + 2 = q) (G : Go p e below W (T.setTop (mkF m q Ls (.int n :: St)))) : Go p e below W (T.setTop (mkF m pc Ls St)) := by
  subst hq; subst hn; exact G.on fun t k' => XS.bipush X.here hx rfl hd k'
theorem g_sipush (X : Stand p l e R s m args below meth c T locs cells slots) (hx : p.tables.exec = Jvm.exec) {i : Int} {n : Int32} (hd : decode c.code pc = .ok (.sipush i, 3)) (hn : (Int16.ofInt i).toInt32 = n) (hq : pc + 3 = q) (G : Go p e below W (T.setTop (mkF m q Ls (.int n :: St)))) : Go p e below W (T.setTop (mkF m pc Ls St)) := by
  subst hq; subst hn; exact G.on fun t k' => XS.sipush X.here hx rfl hd k'
theorem g_lconst (X : Stand p l e R s m args below meth c T locs cells slots) (hx : p.tables.exec = Jvm.exec) {i : Fin 2} {n : Int64} (hd : decode c.code pc = .ok (.lconst i, 1)) (hn : Int64.ofNat i = n) (hq : pc + 1 = q) (G : Go p e below W (T.setTop (mkF m q Ls (.long n :: St)))) : Go p e below W (T.setTop (mkF m pc Ls St)) := by
  subst hq; subst hn; exact G.on fun t k' => XS.lconst X.here hx rfl hd k'
theorem g_aconst_null (X : Stand p l e R s m args below meth c T locs cells slots) (hx : p.tables.exec = Jvm.exec)  (hd : decode c.code pc = .ok (.aconst_null, 1)) (hq : pc + 1 = q) (G : Go p e below W (T.setTop (mkF m q Ls (.null :: St)))) : Go p e below W (T.setTop (mkF m pc Ls St)) := by
  subst hq; exact G.on fun t k' => XS.aconstNull X.here hx rfl hd k'
theorem g_iadd (X : Stand p l e R s m args below meth c T locs cells slots) (hx : p.tables.exec = Jvm.exec) {x y z : Int32} (hd : decode c.code pc = .ok (.iadd, 1)) (hz : x + y = z) (hq : pc + 1 = q) (G : Go p e below W (T.setTop (mkF m q Ls (.int z :: St)))) : Go p e below W (T.setTop (mkF m pc Ls (.int y :: .int x :: St))) := by
  subst hq; subst hz; exact G.on fun t k' => XS.iadd X.here hx rfl hd rfl k'
theorem g_isub (X : Stand p l e R s m args below meth c T locs cells slots) (hx : p.tables.exec = Jvm.exec) {x y z : Int32} (hd : decode c.code pc = .ok (.isub, 1)) (hz : x - y = z) (hq : pc + 1 = q) (G : Go p e below W (T.setTop (mkF m q Ls (.int z :: St)))) : Go p e below W (T.setTop (mkF m pc Ls (.int y :: .int x :: St))) := by
  subst hq; subst hz; exact G.on fun t k' => XS.isub X.here hx rfl hd rfl k'
theorem g_imul (X : Stand p l e R s m args below meth c T locs cells slots) (hx : p.tables.exec = Jvm.exec) {x y z : Int32} (hd : decode c.code pc = .ok (.imul, 1)) (hz : x * y = z) (hq : pc + 1 = q) (G : Go p e below W (T.setTop (mkF m q Ls (.int z :: St)))) : Go p e below W (T.setTop (mkF m pc Ls (.int y :: .int x :: St))) := by
  subst hq; subst hz; exact G.on fun t k' => XS.imul X.here hx rfl hd rfl k'
theorem g_iand (X : Stand p l e R s m args below meth c T locs cells slots) (hx : p.tables.exec = Jvm.exec) {x y z : Int32} (hd : decode c.code pc = .ok (.iand, 1)) (hz : x &&& y = z) (hq : pc + 1 = q) (G : Go p e below W (T.setTop (mkF m q Ls (.int z :: St)))) : Go p e below W (T.setTop (mkF m pc Ls (.int y :: .int x :: St))) := by
  subst hq; subst hz; exact G.on fun t k' => XS.iand X.here hx rfl hd rfl k'
theorem g_ior (X : Stand p l e R s m args below meth c T locs cells slots) (hx : p.tables.exec = Jvm.exec) {x y z : Int32} (hd : decode c.code pc = .ok (.ior, 1)) (hz : x ||| y = z) (hq : pc + 1 = q) (G : Go p e below W (T.setTop (mkF m q Ls (.int z :: St)))) : Go p e below W (T.setTop (mkF m pc Ls (.int y :: .int x :: St))) := by
  subst hq; subst hz; exact G.on fun t k' => XS.ior X.here hx rfl hd rfl k'
theorem g_ixor (X : Stand p l e R s m args below meth c T locs cells slots) (hx : p.tables.exec = Jvm.exec) {x y z : Int32} (hd : decode c.code pc = .ok (.ixor, 1)) (hz : x ^^^ y = z) (hq : pc + 1 = q) (G : Go p e below W (T.setTop (mkF m q Ls (.int z :: St)))) : Go p e below W (T.setTop (mkF m pc Ls (.int y :: .int x :: St))) := by
  subst hq; subst hz; exact G.on fun t k' => XS.ixor X.here hx rfl hd rfl k'
theorem g_ishl (X : Stand p l e R s m args below meth c T locs cells slots) (hx : p.tables.exec = Jvm.exec) {x y z : Int32} (hd : decode c.code pc = .ok (.ishl, 1)) (hz : x <<< (y &&& 31) = z) (hq : pc + 1 = q) (G : Go p e below W (T.setTop (mkF m q Ls (.int z :: St)))) : Go p e below W (T.setTop (mkF m pc Ls (.int y :: .int x :: St))) := by
  subst hq; subst hz; exact G.on fun t k' => XS.ishl X.here hx rfl hd rfl k'
theorem g_ishr (X : Stand p l e R s m args below meth c T locs cells slots) (hx : p.tables.exec = Jvm.exec) {x y z : Int32} (hd : decode c.code pc = .ok (.ishr, 1)) (hz : x >>> (y &&& 31) = z) (hq : pc + 1 = q) (G : Go p e below W (T.setTop (mkF m q Ls (.int z :: St)))) : Go p e below W (T.setTop (mkF m pc Ls (.int y :: .int x :: St))) := by
  subst hq; subst hz; exact G.on fun t k' => XS.ishr X.here hx rfl hd rfl k'
theorem g_iushr (X : Stand p l e R s m args below meth c T locs cells slots) (hx : p.tables.exec = Jvm.exec) {x y z : Int32} (hd : decode c.code pc = .ok (.iushr, 1)) (hz : (x.toUInt32 >>> (y &&& 31).toUInt32).toInt32 = z) (hq : pc + 1 = q) (G : Go p e below W (T.setTop (mkF m q Ls (.int z :: St)))) : Go p e below W (T.setTop (mkF m pc Ls (.int y :: .int x :: St))) := by
  subst hq; subst hz; exact G.on fun t k' => XS.iushr X.here hx rfl hd rfl k'
theorem g_irem (X : Stand p l e R s m args below meth c T locs cells slots) (hx : p.tables.exec = Jvm.exec) {x y z : Int32} (hd : decode c.code pc = .ok (.irem, 1)) (hy : y ≠ 0) (hz : x % y = z) (hq : pc + 1 = q) (G : Go p e below W (T.setTop (mkF m q Ls (.int z :: St)))) : Go p e below W (T.setTop (mkF m pc Ls (.int y :: .int x :: St))) := by
  subst hq; subst hz; exact G.on fun t k' => iremM X hx rfl hd rfl hy k'
theorem g_ladd (X : Stand p l e R s m args below meth c T locs cells slots) (hx : p.tables.exec = Jvm.exec) {x y z : Int64} (hd : decode c.code pc = .ok (.ladd, 1)) (hz : x + y = z) (hq : pc + 1 = q) (G : Go p e below W (T.setTop (mkF m q Ls (.long z :: St)))) : Go p e below W (T.setTop (mkF m pc Ls (.long y :: .long x :: St))) := by
  subst hq; subst hz; exact G.on fun t k' => XS.ladd X.here hx rfl hd rfl k'
theorem g_lsub (X : Stand p l e R s m args below meth c T locs cells slots) (hx : p.tables.exec = Jvm.exec) {x y z : Int64} (hd : decode c.code pc = .ok (.lsub, 1)) (hz : x - y = z) (hq : pc + 1 = q) (G : Go p e below W (T.setTop (mkF m q Ls (.long z :: St)))) : Go p e below W (T.setTop (mkF m pc Ls (.long y :: .long x :: St))) := by
  subst hq; subst hz; exact G.on fun t k' => XS.lsub X.here hx rfl hd rfl k'
theorem g_land (X : Stand p l e R s m args below meth c T locs cells slots) (hx : p.tables.exec = Jvm.exec) {x y z : Int64} (hd : decode c.code pc = .ok (.land, 1)) (hz : x &&& y = z) (hq : pc + 1 = q) (G : Go p e below W (T.setTop (mkF m q Ls (.long z :: St)))) : Go p e below W (T.setTop (mkF m pc Ls (.long y :: .long x :: St))) := by
  subst hq; subst hz; exact G.on fun t k' => XS.land X.here hx rfl hd rfl k'
theorem g_lor (X : Stand p l e R s m args below meth c T locs cells slots) (hx : p.tables.exec = Jvm.exec) {x y z : Int64} (hd : decode c.code pc = .ok (.lor, 1)) (hz : x ||| y = z) (hq : pc + 1 = q) (G : Go p e below W (T.setTop (mkF m q Ls (.long z :: St)))) : Go p e below W (T.setTop (mkF m pc Ls (.long y :: .long x :: St))) := by
  subst hq; subst hz; exact G.on fun t k' => XS.lor X.here hx rfl hd rfl k'
theorem g_lxor (X : Stand p l e R s m args below meth c T locs cells slots) (hx : p.tables.exec = Jvm.exec) {x y z : Int64} (hd : decode c.code pc = .ok (.lxor, 1)) (hz : x ^^^ y = z) (hq : pc + 1 = q) (G : Go p e below W (T.setTop (mkF m q Ls (.long z :: St)))) : Go p e below W (T.setTop (mkF m pc Ls (.long y :: .long x :: St))) := by
  subst hq; subst hz; exact G.on fun t k' => XS.lxor X.here hx rfl hd rfl k'
theorem g_lshl (X : Stand p l e R s m args below meth c T locs cells slots) (hx : p.tables.exec = Jvm.exec) {x z : Int64} {y : Int32} (hd : decode c.code pc = .ok (.lshl, 1)) (hz : x <<< (y &&& 0x3f).toInt64 = z) (hq : pc + 1 = q) (G : Go p e below W (T.setTop (mkF m q Ls (.long z :: St)))) : Go p e below W (T.setTop (mkF m pc Ls (.int y :: .long x :: St))) := by
  subst hq; subst hz; exact G.on fun t k' => XS.lshl X.here hx rfl hd rfl k'
theorem g_lshr (X : Stand p l e R s m args below meth c T locs cells slots) (hx : p.tables.exec = Jvm.exec) {x z : Int64} {y : Int32} (hd : decode c.code pc = .ok (.lshr, 1)) (hz : x >>> (y &&& 0x3f).toInt64 = z) (hq : pc + 1 = q) (G : Go p e below W (T.setTop (mkF m q Ls (.long z :: St)))) : Go p e below W (T.setTop (mkF m pc Ls (.int y :: .long x :: St))) := by
  subst hq; subst hz; exact G.on fun t k' => XS.lshr X.here hx rfl hd rfl k'
theorem g_lushr (X : Stand p l e R s m args below meth c T locs cells slots) (hx : p.tables.exec = Jvm.exec) {x z : Int64} {y : Int32} (hd : decode c.code pc = .ok (.lushr, 1)) (hz : (x.toUInt64 >>> (y &&& 0x3f).toInt64.toUInt64).toInt64 = z) (hq : pc + 1 = q) (G : Go p e below W (T.setTop (mkF m q Ls (.long z :: St)))) : Go p e below W (T.setTop (mkF m pc Ls (.int y :: .long x :: St))) := by
  subst hq; subst hz; exact G.on fun t k' => XS.lushr X.here hx rfl hd rfl k'
theorem g_lcmp (X : Stand p l e R s m args below meth c T locs cells slots) (hx : p.tables.exec = Jvm.exec) {x y : Int64} {z : Int32} (hd : decode c.code pc = .ok (.lcmp, 1)) (hz : lcmpW x y = z) (hq : pc + 1 = q) (G : Go p e below W (T.setTop (mkF m q Ls (.int z :: St)))) : Go p e below W (T.setTop (mkF m pc Ls (.long y :: .long x :: St))) := by
  subst hq; subst hz; exact G.on fun t k' => XS.lcmp X.here hx rfl hd rfl k'
theorem g_i2l (X : Stand p l e R s m args below meth c T locs cells slots) (hx : p.tables.exec = Jvm.exec) {x : Int32} {z : Int64} (hd : decode c.code pc = .ok (.i2l, 1)) (hz : x.toInt64 = z) (hq : pc + 1 = q) (G : Go p e below W (T.setTop (mkF m q Ls (.long z :: St)))) : Go p e below W (T.setTop (mkF m pc Ls (.int x :: St))) := by
  subst hq; subst hz; exact G.on fun t k' => XS.i2l X.here hx rfl hd rfl k'
theorem g_l2i (X : Stand p l e R s m args below meth c T locs cells slots) (hx : p.tables.exec = Jvm.exec) {x : Int64} {z : Int32} (hd : decode c.code pc = .ok (.l2i, 1)) (hz : x.toInt32 = z) (hq : pc + 1 = q) (G : Go p e below W (T.setTop (mkF m q Ls (.int z :: St)))) : Go p e below W (T.setTop (mkF m pc Ls (.long x :: St))) := by
  subst hq; subst hz; exact G.on fun t k' => XS.l2i X.here hx rfl hd rfl k'
theorem g_i2b (X : Stand p l e R s m args below meth c T locs cells slots) (hx : p.tables.exec = Jvm.exec) {x : Int32} {z : Int32} (hd : decode c.code pc = .ok (.i2b, 1)) (hz : x.toInt8.toInt32 = z) (hq : pc + 1 = q) (G : Go p e below W (T.setTop (mkF m q Ls (.int z :: St)))) : Go p e below W (T.setTop (mkF m pc Ls (.int x :: St))) := by
  subst hq; subst hz; exact G.on fun t k' => XS.i2b X.here hx rfl hd rfl k'
theorem g_i2c (X : Stand p l e R s m args below meth c T locs cells slots) (hx : p.tables.exec = Jvm.exec) {x : Int32} {z : Int32} (hd : decode c.code pc = .ok (.i2c, 1)) (hz : x.toUInt32.toUInt16.toUInt32.toInt32 = z) (hq : pc + 1 = q) (G : Go p e below W (T.setTop (mkF m q Ls (.int z :: St)))) : Go p e below W (T.setTop (mkF m pc Ls (.int x :: St))) := by
  subst hq; subst hz; exact G.on fun t k' => XS.i2c X.here hx rfl hd rfl k'
theorem g_ineg (X : Stand p l e R s m args below meth c T locs cells slots) (hx : p.tables.exec = Jvm.exec) {x : Int32} {z : Int32} (hd : decode c.code pc = .ok (.ineg, 1)) (hz : -x = z) (hq : pc + 1 = q) (G : Go p e below W (T.setTop (mkF m q Ls (.int z :: St)))) : Go p e below W (T.setTop (mkF m pc Ls (.int x :: St))) := by
  subst hq; subst hz; exact G.on fun t k' => XS.ineg X.here hx rfl hd rfl k'
theorem g_dup (X : Stand p l e R s m args below meth c T locs cells slots) (hx : p.tables.exec = Jvm.exec) {x : Value} (hd : decode c.code pc = .ok (.dup, 1)) (hc : x.category = 1) (hq : pc + 1 = q) (G : Go p e below W (T.setTop (mkF m q Ls (x :: x :: St)))) : Go p e below W (T.setTop (mkF m pc Ls (x :: St))) := by
  subst hq; exact G.on fun t k' => XS.dup X.here hx rfl hd rfl hc k'
theorem g_pop (X : Stand p l e R s m args below meth c T locs cells slots) (hx : p.tables.exec = Jvm.exec) {x : Value} (hd : decode c.code pc = .ok (.pop, 1)) (hc : x.category = 1) (hq : pc + 1 = q) (G : Go p e below W (T.setTop (mkF m q Ls St))) : Go p e below W (T.setTop (mkF m pc Ls (x :: St))) := by
  subst hq; exact G.on fun t k' => XS.pop X.here hx rfl hd rfl hc k'
theorem g_dup_x1 (X : Stand p l e R s m args below meth c T locs cells slots) (hx : p.tables.exec = Jvm.exec) {x y : Value} (hd : decode c.code pc = .ok (.dup_x1, 1)) (hc : x.category = 1) (hc2 : y.category = 1) (hq : pc + 1 = q) (G : Go p e below W (T.setTop (mkF m q Ls (x :: y :: x :: St)))) : Go p e below W (T.setTop (mkF m pc Ls (x :: y :: St))) := by
  subst hq; exact G.on fun t k' => XS.dupX1 X.here hx rfl hd rfl hc hc2 k'
theorem g_iinc (X : Stand p l e R s m args below meth c T locs cells slots) (hx : p.tables.exec = Jvm.exec) {k : Nat} {cst : Int} {x z : Int32} {L' : Array Slot} (hd : decode c.code pc = .ok (.iinc k cst, 3)) (hl : Ls[k]? = some (.val (.int x))) (hz : x + Int32.ofInt cst = z) (hl' : storeLocals Ls k (.int z) = some L') (hq : pc + 3 = q) (G : Go p e below W (T.setTop (mkF m q L' St))) : Go p e below W (T.setTop (mkF m pc Ls St)) := by
  subst hq; subst hz; exact G.on fun t k' => XS.iinc X.here hx rfl hd hl hl' k'
theorem g_goto (X : Stand p l e R s m args below meth c T locs cells slots) (hx : p.tables.exec = Jvm.exec) {o : Int} (hd : decode c.code pc = .ok (.goto o, 3)) (ho : 0 ≤ (pc : Int) + o) (hq : ((pc : Int) + o).toNat = q) (G : Go p e below W (T.setTop (mkF m q Ls St))) : Go p e below W (T.setTop (mkF m pc Ls St)) :=
  G.on fun t k' => XS.goto X.here hx rfl rfl hd ho hq k'
end Plain
section Branches
variable {q2 : Nat}
theorem g_icmp (X : Stand p l e R s m args below meth c T locs cells slots) (hx : p.tables.exec = Jvm.exec) {cd : ClassFile.Cond} {x y : Int32} {o : Int} (hd : decode c.code pc = .ok (.if_icmp cd o, 3)) (ho : 0 ≤ (pc : Int) + o) (hq : ((pc : Int) + o).toNat = q) (hq2 : pc + 3 = q2)
    (Gy : if_icmp.holds cd x y = true → Go p e below W (T.setTop (mkF m q Ls St))) (Gn : if_icmp.holds cd x y = false → Go p e below W (T.setTop (mkF m q2 Ls St))) : Go p e below W (T.setTop (mkF m pc Ls (.int y :: .int x :: St))) := by
  subst hq2
  cases hc : if_icmp.holds cd x y with
  | true => exact (Gy hc).on fun t k => XS.icmpYes X.here hx rfl rfl hd rfl hc ho hq k
  | false => exact (Gn hc).on fun t k => XS.icmpNo X.here hx rfl hd rfl hc k
theorem g_if0 (X : Stand p l e R s m args below meth c T locs cells slots) (hx : p.tables.exec = Jvm.exec) {cd : ClassFile.Cond} {x : Int32} {o : Int} (hd : decode c.code pc = .ok (.ifCond cd o, 3)) (ho : 0 ≤ (pc : Int) + o) (hq : ((pc : Int) + o).toNat = q) (hq2 : pc + 3 = q2)
    (Gy : if_icmp.holds cd x 0 = true → Go p e below W (T.setTop (mkF m q Ls St))) (Gn : if_icmp.holds cd x 0 = false → Go p e below W (T.setTop (mkF m q2 Ls St))) : Go p e below W (T.setTop (mkF m pc Ls (.int x :: St))) := by
  subst hq2
  cases hc : if_icmp.holds cd x 0 with
  | true => exact (Gy hc).on fun t k => XS.ifYes X.here hx rfl rfl hd rfl ((if0 _ _).trans hc) ho hq k
  | false => exact (Gn hc).on fun t k => XS.ifNo X.here hx rfl hd rfl ((if0 _ _).trans hc) k
theorem g_icmp_eq (X : Stand p l e R s m args below meth c T locs cells slots) (hx : p.tables.exec = Jvm.exec) {x y : Int32} {o : Int} (hd : decode c.code pc = .ok (.if_icmp .eq o, 3)) (ho : 0 ≤ (pc : Int) + o) (hq : ((pc : Int) + o).toNat = q) (hq2 : pc + 3 = q2) (Gy : x = y → Go p e below W (T.setTop (mkF m q Ls St))) (Gn : ¬ x = y → Go p e below W (T.setTop (mkF m q2 Ls St))) : Go p e below W (T.setTop (mkF m pc Ls (.int y :: .int x :: St))) :=
  g_icmp X hx hd ho hq hq2 (fun h => Gy (by simpa [if_icmp.holds] using h)) (fun h => Gn (by simpa [if_icmp.holds] using h))
theorem g_if_eq (X : Stand p l e R s m args below meth c T locs cells slots) (hx : p.tables.exec = Jvm.exec) {x : Int32} {o : Int} (hd : decode c.code pc = .ok (.ifCond .eq o, 3)) (ho : 0 ≤ (pc : Int) + o) (hq : ((pc : Int) + o).toNat = q) (hq2 : pc + 3 = q2) (Gy : x = (0 : Int32) → Go p e below W (T.setTop (mkF m q Ls St))) (Gn : ¬ x = (0 : Int32) → Go p e below W (T.setTop (mkF m q2 Ls St))) : Go p e below W (T.setTop (mkF m pc Ls (.int x :: St))) :=
  g_if0 X hx hd ho hq hq2 (fun h => Gy (by simpa [if_icmp.holds] using h)) (fun h => Gn (by simpa [if_icmp.holds] using h))
theorem g_icmp_ne (X : Stand p l e R s m args below meth c T locs cells slots) (hx : p.tables.exec = Jvm.exec) {x y : Int32} {o : Int} (hd : decode c.code pc = .ok (.if_icmp .ne o, 3)) (ho : 0 ≤ (pc : Int) + o) (hq : ((pc : Int) + o).toNat = q) (hq2 : pc + 3 = q2) (Gy : ¬ x = y → Go p e below W (T.setTop (mkF m q Ls St))) (Gn : x = y → Go p e below W (T.setTop (mkF m q2 Ls St))) : Go p e below W (T.setTop (mkF m pc Ls (.int y :: .int x :: St))) :=
  g_icmp X hx hd ho hq hq2 (fun h => Gy (by simpa [if_icmp.holds] using h)) (fun h => Gn (by simpa [if_icmp.holds] using h))
theorem g_if_ne (X : Stand p l e R s m args below meth c T locs cells slots) (hx : p.tables.exec = Jvm.exec) {x : Int32} {o : Int} (hd : decode c.code pc = .ok (.ifCond .ne o, 3)) (ho : 0 ≤ (pc : Int) + o) (hq : ((pc : Int) + o).toNat = q) (hq2 : pc + 3 = q2) (Gy : ¬ x = (0 : Int32) → Go p e below W (T.setTop (mkF m q Ls St))) (Gn : x = (0 : Int32) → Go p e below W (T.setTop (mkF m q2 Ls St))) : Go p e below W (T.setTop (mkF m pc Ls (.int x :: St))) :=
  g_if0 X hx hd ho hq hq2 (fun h => Gy (by simpa [if_icmp.holds] using h)) (fun h => Gn (by simpa [if_icmp.holds] using h))
theorem g_icmp_lt (X : Stand p l e R s m args below meth c T locs cells slots) (hx : p.tables.exec = Jvm.exec) {x y : Int32} {o : Int} (hd : decode c.code pc = .ok (.if_icmp .lt o, 3)) (ho : 0 ≤ (pc : Int) + o) (hq : ((pc : Int) + o).toNat = q) (hq2 : pc + 3 = q2) (Gy : x < y → Go p e below W (T.setTop (mkF m q Ls St))) (Gn : ¬ x < y → Go p e below W (T.setTop (mkF m q2 Ls St))) : Go p e below W (T.setTop (mkF m pc Ls (.int y :: .int x :: St))) :=
  g_icmp X hx hd ho hq hq2 (fun h => Gy (by simpa [if_icmp.holds] using h)) (fun h => Gn (by simpa [if_icmp.holds] using h))
theorem g_if_lt (X : Stand p l e R s m args below meth c T locs cells slots) (hx : p.tables.exec = Jvm.exec) {x : Int32} {o : Int} (hd : decode c.code pc = .ok (.ifCond .lt o, 3)) (ho : 0 ≤ (pc : Int) + o) (hq : ((pc : Int) + o).toNat = q) (hq2 : pc + 3 = q2) (Gy : x < (0 : Int32) → Go p e below W (T.setTop (mkF m q Ls St))) (Gn : ¬ x < (0 : Int32) → Go p e below W (T.setTop (mkF m q2 Ls St))) : Go p e below W (T.setTop (mkF m pc Ls (.int x :: St))) :=
  g_if0 X hx hd ho hq hq2 (fun h => Gy (by simpa [if_icmp.holds] using h)) (fun h => Gn (by simpa [if_icmp.holds] using h))
theorem g_icmp_ge (X : Stand p l e R s m args below meth c T locs cells slots) (hx : p.tables.exec = Jvm.exec) {x y : Int32} {o : Int} (hd : decode c.code pc = .ok (.if_icmp .ge o, 3)) (ho : 0 ≤ (pc : Int) + o) (hq : ((pc : Int) + o).toNat = q) (hq2 : pc + 3 = q2) (Gy : ¬ x < y → Go p e below W (T.setTop (mkF m q Ls St))) (Gn : x < y → Go p e below W (T.setTop (mkF m q2 Ls St))) : Go p e below W (T.setTop (mkF m pc Ls (.int y :: .int x :: St))) :=
  g_icmp X hx hd ho hq hq2 (fun h => Gy (by simpa [if_icmp.holds] using h)) (fun h => Gn (by simpa [if_icmp.holds] using h))
theorem g_if_ge (X : Stand p l e R s m args below meth c T locs cells slots) (hx : p.tables.exec = Jvm.exec) {x : Int32} {o : Int} (hd : decode c.code pc = .ok (.ifCond .ge o, 3)) (ho : 0 ≤ (pc : Int) + o) (hq : ((pc : Int) + o).toNat = q) (hq2 : pc + 3 = q2) (Gy : ¬ x < (0 : Int32) → Go p e below W (T.setTop (mkF m q Ls St))) (Gn : x < (0 : Int32) → Go p e below W (T.setTop (mkF m q2 Ls St))) : Go p e below W (T.setTop (mkF m pc Ls (.int x :: St))) :=
  g_if0 X hx hd ho hq hq2 (fun h => Gy (by simpa [if_icmp.holds] using h)) (fun h => Gn (by simpa [if_icmp.holds] using h))
theorem g_icmp_gt (X : Stand p l e R s m args below meth c T locs cells slots) (hx : p.tables.exec = Jvm.exec) {x y : Int32} {o : Int} (hd : decode c.code pc = .ok (.if_icmp .gt o, 3)) (ho : 0 ≤ (pc : Int) + o) (hq : ((pc : Int) + o).toNat = q) (hq2 : pc + 3 = q2) (Gy : y < x → Go p e below W (T.setTop (mkF m q Ls St))) (Gn : ¬ y < x → Go p e below W (T.setTop (mkF m q2 Ls St))) : Go p e below W (T.setTop (mkF m pc Ls (.int y :: .int x :: St))) :=
  g_icmp X hx hd ho hq hq2 (fun h => Gy (by simpa [if_icmp.holds] using h)) (fun h => Gn (by simpa [if_icmp.holds] using h))
theorem g_if_gt (X : Stand p l e R s m args below meth c T locs cells slots) (hx : p.tables.exec = Jvm.exec) {x : Int32} {o : Int} (hd : decode c.code pc = .ok (.ifCond .gt o, 3)) (ho : 0 ≤ (pc : Int) + o) (hq : ((pc : Int) + o).toNat = q) (hq2 : pc + 3 = q2) (Gy : (0 : Int32) < x → Go p e below W (T.setTop (mkF m q Ls St))) (Gn : ¬ (0 : Int32) < x → Go p e below W (T.setTop (mkF m q2 Ls St))) : Go p e below W (T.setTop (mkF m pc Ls (.int x :: St))) :=
  g_if0 X hx hd ho hq hq2 (fun h => Gy (by simpa [if_icmp.holds] using h)) (fun h => Gn (by simpa [if_icmp.holds] using h))
theorem g_icmp_le (X : Stand p l e R s m args below meth c T locs cells slots) (hx : p.tables.exec = Jvm.exec) {x y : Int32} {o : Int} (hd : decode c.code pc = .ok (.if_icmp .le o, 3)) (ho : 0 ≤ (pc : Int) + o) (hq : ((pc : Int) + o).toNat = q) (hq2 : pc + 3 = q2) (Gy : ¬ y < x → Go p e below W (T.setTop (mkF m q Ls St))) (Gn : y < x → Go p e below W (T.setTop (mkF m q2 Ls St))) : Go p e below W (T.setTop (mkF m pc Ls (.int y :: .int x :: St))) :=
  g_icmp X hx hd ho hq hq2 (fun h => Gy (by simpa [if_icmp.holds] using h)) (fun h => Gn (by simpa [if_icmp.holds] using h))
theorem g_if_le (X : Stand p l e R s m args below meth c T locs cells slots) (hx : p.tables.exec = Jvm.exec) {x : Int32} {o : Int} (hd : decode c.code pc = .ok (.ifCond .le o, 3)) (ho : 0 ≤ (pc : Int) + o) (hq : ((pc : Int) + o).toNat = q) (hq2 : pc + 3 = q2) (Gy : ¬ (0 : Int32) < x → Go p e below W (T.setTop (mkF m q Ls St))) (Gn : (0 : Int32) < x → Go p e below W (T.setTop (mkF m q2 Ls St))) : Go p e below W (T.setTop (mkF m pc Ls (.int x :: St))) :=
  g_if0 X hx hd ho hq hq2 (fun h => Gy (by simpa [if_icmp.holds] using h)) (fun h => Gn (by simpa [if_icmp.holds] using h))
theorem g_acmpEq (X : Stand p l e R s m args below meth c T locs cells slots) (hx : p.tables.exec = Jvm.exec) {x y : Value} (h1 : x.isRef = true) (h2 : y.isRef = true) {o : Int} (hd : decode c.code pc = .ok (.if_acmp .eq o, 3)) (ho : 0 ≤ (pc : Int) + o) (hq : ((pc : Int) + o).toNat = q) (hq2 : pc + 3 = q2)
    (Gy : x = y → Go p e below W (T.setTop (mkF m q Ls St))) (Gn : ¬ x = y → Go p e below W (T.setTop (mkF m q2 Ls St))) : Go p e below W (T.setTop (mkF m pc Ls (y :: x :: St))) := by
  by_cases hc : x = y
  · exact (Gy hc).on fun t k => Jvm.RoadKit.acmp X hx rfl h1 h2 (pc0 := pc) (same := true) rfl hd rfl (decide_eq_true hc) ho (by simp [acV, hq]) k
  · exact (Gn hc).on fun t k => Jvm.RoadKit.acmp X hx rfl h1 h2 (pc0 := pc) (same := false) rfl hd rfl (decide_eq_false hc) ho (by simp [acV, hq2]) k
theorem g_acmpNe (X : Stand p l e R s m args below meth c T locs cells slots) (hx : p.tables.exec = Jvm.exec) {x y : Value} (h1 : x.isRef = true) (h2 : y.isRef = true) {o : Int} (hd : decode c.code pc = .ok (.if_acmp .ne o, 3)) (ho : 0 ≤ (pc : Int) + o) (hq : ((pc : Int) + o).toNat = q) (hq2 : pc + 3 = q2)
    (Gy : ¬ x = y → Go p e below W (T.setTop (mkF m q Ls St))) (Gn : x = y → Go p e below W (T.setTop (mkF m q2 Ls St))) : Go p e below W (T.setTop (mkF m pc Ls (y :: x :: St))) := by
  by_cases hc : x = y
  · exact (Gn hc).on fun t k => Jvm.RoadKit.acmp X hx rfl h1 h2 (pc0 := pc) (same := true) rfl hd rfl (decide_eq_true hc) ho (by simp [acV, hq2]) k
  · exact (Gy hc).on fun t k => Jvm.RoadKit.acmp X hx rfl h1 h2 (pc0 := pc) (same := false) rfl hd rfl (decide_eq_false hc) ho (by simp [acV, hq]) k
theorem g_ifnullY (X : Stand p l e R s m args below meth c T locs cells slots) (hx : p.tables.exec = Jvm.exec) {o : Int} (hd : decode c.code pc = .ok (.ifnull o, 3)) (ho : 0 ≤ (pc : Int) + o) (hq : ((pc : Int) + o).toNat = q) (G : Go p e below W (T.setTop (mkF m q Ls St))) : Go p e below W (T.setTop (mkF m pc Ls (.null :: St))) :=
  G.on fun t k => XS.ifnullYes X.here hx rfl rfl hd rfl ho hq k
theorem g_ifnullN (X : Stand p l e R s m args below meth c T locs cells slots) (hx : p.tables.exec = Jvm.exec) {o : Int} {b : Addr} (hd : decode c.code pc = .ok (.ifnull o, 3)) (hq : pc + 3 = q) (G : Go p e below W (T.setTop (mkF m q Ls St))) : Go p e below W (T.setTop (mkF m pc Ls (.ref b :: St))) := by
  subst hq; exact G.on fun t k => XS.ifnullNo X.here hx rfl hd rfl k
theorem g_ifnonnullN (X : Stand p l e R s m args below meth c T locs cells slots) (hx : p.tables.exec = Jvm.exec) {o : Int} (hd : decode c.code pc = .ok (.ifnonnull o, 3)) (hq : pc + 3 = q) (G : Go p e below W (T.setTop (mkF m q Ls St))) : Go p e below W (T.setTop (mkF m pc Ls (.null :: St))) := by
  subst hq; exact G.on fun t k => XS.ifnonnullNo X.here hx rfl hd rfl k
theorem g_ifnonnullY (X : Stand p l e R s m args below meth c T locs cells slots) (hx : p.tables.exec = Jvm.exec) {o : Int} {b : Addr} (hd : decode c.code pc = .ok (.ifnonnull o, 3)) (ho : 0 ≤ (pc : Int) + o) (hq : ((pc : Int) + o).toNat = q) (G : Go p e below W (T.setTop (mkF m q Ls St))) : Go p e below W (T.setTop (mkF m pc Ls (.ref b :: St))) :=
  G.on fun t k => XS.ifnonnullYes X.here hx rfl rfl hd rfl ho hq k
end Branches
section HeapSteps
theorem g_ldcI (X : Stand p l e R s m args below meth c T locs cells slots) (hx : p.tables.exec = Jvm.exec) (hZ : Z.Warmed39 s.vm) {own : String} {index : Nat} {v : Int32} (hown : s.vm.findClass own = some m.cls) (w : (Jvm.Cond.constant own index v).before a0 Z = true) (hd : decode c.code pc = .ok (.ldc index, 2)) (hq : pc + 2 = q)
    (G : Go p e below W (T.setTop (mkF m q Ls (.int v :: St)))) : Go p e below W (T.setTop (mkF m pc Ls St)) := by
  subst hq; exact G.on fun t k => X.ldcInt hx hown (mvT hZ w) (g := mkF m pc Ls St) rfl hd t k
theorem g_ldcJ (X : Stand p l e R s m args below meth c T locs cells slots) (hx : p.tables.exec = Jvm.exec) (hZ : Z.Warmed39 s.vm) {own : String} {index : Nat} {v : Int64} (hown : s.vm.findClass own = some m.cls) (w : (Jvm.Cond.constantLong own index v).before a0 Z = true) (hd : decode c.code pc = .ok (.ldc2_w index, 3)) (hq : pc + 3 = q)
    (G : Go p e below W (T.setTop (mkF m q Ls (.long v :: St)))) : Go p e below W (T.setTop (mkF m pc Ls St)) := by
  subst hq; exact G.on fun t k => X.ldc2Long hx hown (mvT hZ w) (g := mkF m pc Ls St) rfl hd t k
theorem g_getF (X : Stand p l e R s m args below meth c T locs cells slots) (hx : p.tables.exec = Jvm.exec) (hZ : Z.Warmed39 s.vm) {own R0 O n d : String} {index : Nat} (hown : s.vm.findClass own = some m.cls) (w : (Jvm.Cond.fieldLink own index R0 n d).before a0 Z = true) (via : Via Z R0 O n d)
    (eT : T.heap = h) {a : Addr} {v : Value} (F : Fld Z h a O n d v) (hd : decode c.code pc = .ok (.getfield index, 3)) (hq : pc + 3 = q)
    (G : ∀ T', Stand p l e R s m args below meth c T' locs cells slots → T'.heap = h → Go p e below W (T'.setTop (mkF m q Ls (v :: St)))) : Go p e below W (T.setTop (mkF m pc Ls (.ref a :: St))) := by
  subst hq
  obtain ⟨T', X', e', st⟩ := getF X hx hZ hown (host := "") (Or.inl w) via eT F (g := mkF m pc Ls (.ref a :: St)) rfl rfl hd
  exact (G T' X' e').on st
theorem g_getS (X : Stand p l e R s m args below meth c T locs cells slots) (hx : p.tables.exec = Jvm.exec) (hZ : Z.Warmed39 s.vm) {own R0 O n d : String} {index : Nat} (hown : s.vm.findClass own = some m.cls) (w : (Jvm.Cond.fieldLink own index R0 n d).before a0 Z = true) (via : Via Z R0 O n d)
    (eT : T.heap = h) {v : Value} (F : Sta Z h O n d v) (hd : decode c.code pc = .ok (.getstatic index, 3)) (hq : pc + 3 = q)
    (G : ∀ T', Stand p l e R s m args below meth c T' locs cells slots → T'.heap = h → Go p e below W (T'.setTop (mkF m q Ls (v :: St)))) : Go p e below W (T.setTop (mkF m pc Ls St)) := by
  subst hq
  obtain ⟨T', X', e', st⟩ := getS2 X hx hZ hown (host := "") (Or.inl w) via eT F (g := mkF m pc Ls St) rfl hd
  exact (G T' X' e').on st
theorem g_putF (X : Stand p l e R s m args below meth c T locs cells slots) (hx : p.tables.exec = Jvm.exec) (hZ : Z.Warmed39 s.vm) {own R0 O n d C : String} {index kk : Nat} {ty : FieldType} (hown : s.vm.findClass own = some m.cls) (w : (Jvm.Cond.fieldLink own index R0 n d).before a0 Z = true) (via : Via Z R0 O n d)
    (eT : T.heap = h) {a : Addr} {v old : Value} (F : Fld Z h a O n d old) (E : Exa Z h a C) (L : (Jvm.Cond.lays C O n d).before a0 Z = true ∨ ((Jvm.Cond.laysFinal C O n d).before a0 Z = true ∧ own = O ∧ meth.name = "<init>")) (wi : (Jvm.Cond.instantiable C kk).before a0 Z = true)
    (hty : parseFieldDescriptor d = some ty) (hn : narrow ty v = v) (hf : fits ty v = true) (hd : decode c.code pc = .ok (.putfield index, 3)) (hq : pc + 3 = q)
    (G : ∀ T' h', Stand p l e R s m args below meth c T' (locs ++ [⟨a, Jvm.RoadKit.slotOf Z O n d⟩]) cells slots → T'.heap = h' → Wr h h' a (Jvm.RoadKit.slotOf Z O n d) v → Go p e below W (T'.setTop (mkF m q Ls St))) : Go p e below W (T.setTop (mkF m pc Ls (v :: .ref a :: St))) := by
  subst hq
  obtain ⟨T', h', X', e', W', st⟩ := putF X hx hZ hown (host := "") (Or.inl w) via eT F E L wi hty hn hf (g := mkF m pc Ls (v :: .ref a :: St)) rfl rfl hd
  exact (G T' h' X' e' W').on st
theorem g_new (X : Stand p l e R s m args below meth c T locs cells slots) (hx : p.tables.exec = Jvm.exec) (hZ : Z.Warmed39 s.vm) {own C : String} {index n : Nat} (hown : s.vm.findClass own = some m.cls) (w : (Jvm.Cond.classLink own index C).before a0 Z = true) (wi : (Jvm.Cond.instantiable C n).before a0 Z = true) (wz : (Jvm.Cond.initialized C).before a0 Z = true) (eT : T.heap = h)
    (hd : decode c.code pc = .ok (.new index, 3)) (hc : cells + 1 ≤ R.cells) (hl : slots + n ≤ R.slots) (hq : pc + 3 = q)
    (G : ∀ T' h' b, b = h.size → Stand p l e R s m args below meth c T' locs (cells + 1) (slots + n) → T'.heap = h' → Ext h h' → Exa Z h' b C → (∀ {O nm d : String} {ty : FieldType}, Laid Z a0 C O nm d → parseFieldDescriptor d = some ty → Fld Z h' b O nm d (defaultValue ty)) → Go p e below W (T'.setTop (mkF m q Ls (.ref b :: St)))) :
    Go p e below W (T.setTop (mkF m pc Ls St)) := by
  subst hq
  obtain ⟨T', h', X', e', E', A', D', -, st⟩ := newO X hx hZ hown w wi wz eT (g := mkF m pc Ls St) rfl hd hc hl
  exact (G T' h' _ rfl X' e' E' A' D').on st
theorem g_newP (X : Stand p l e R s m args below meth c T locs cells slots) (hx : p.tables.exec = Jvm.exec) (hZ : Z.Warmed39 s.vm) {aty : ArrayType} (w : (Jvm.Cond.arrayClass (newarray.typeOf aty)).before a0 Z = true) (eT : T.heap = h) (hd : decode c.code pc = .ok (.newarray aty, 2)) {n : Int32} (hn : ¬ n < 0) {cap : Nat} (hcap : n.toNatClampNeg ≤ cap) (hb : cap * 8 ≤ 536870912) (hc : cells + 1 ≤ R.cells) (hl : slots + cap ≤ R.slots) (hq : pc + 2 = q)
    (G : ∀ T' h' cA b, b = h.size → Stand p l e R s m args below meth c T' locs (cells + 1) (slots + cap) → T'.heap = h' → Ext h h' → Arr Z h' b (newA cA (newarray.typeOf aty) n) (newarray.typeOf aty) → Go p e below W (T'.setTop (mkF m q Ls (.ref b :: St)))) :
    Go p e below W (T.setTop (mkF m pc Ls (.int n :: St))) := by
  subst hq
  obtain ⟨T', h', cA, X', e', E', A', st⟩ := newP X hx hZ w eT (g := mkF m pc Ls (.int n :: St)) rfl hd rfl hn hcap hb hc hl
  exact (G T' h' cA _ rfl X' e' E' A').on st
theorem g_initO (X : Stand p l e R s m args below meth c T locs cells slots) (hx : p.tables.exec = Jvm.exec) (hZ : Z.Warmed39 s.vm) {own : String} {idx : Nat} (hown : s.vm.findClass own = some m.cls) (w1 : (Jvm.Cond.methodLink own idx Lib.objectInit).before a0 Z = true) (w2 : (Jvm.Cond.instanceMethod Lib.objectInit).before a0 Z = true)
    (w3 : (Jvm.Cond.code Lib.objectInit ⟨#[0xb1]⟩ 1 none).before a0 Z = true) (eT : T.heap = h) (hsz : Ls.size = c.maxLocals) {a : Addr} (hd : decode c.code pc = .ok (.invokespecial idx, 3)) (hf : 1 ≤ R.frames) (hl : (St.map fun v => v.category).sum + 12 ≤ R.locals) (hq : pc + 3 = q)
    (G : ∀ T', Stand p l e R s m args below meth c T' locs cells slots → T'.heap = h → Go p e below W (T'.setTop (mkF m q Ls St))) : Go p e below W (T.setTop (mkF m pc Ls (.ref a :: St))) := by
  subst hq
  obtain ⟨T', X', e', st⟩ := initO X hx hZ hown w1 w2 w3 eT (g := mkF m pc Ls (.ref a :: St)) rfl hsz rfl hd hf (W := (St.map fun v => v.category).sum) (by simp) hl
  exact (G T' X' e').on st
end HeapSteps
section Calls
variable {y z : MethodName} {bytes : ByteArray} {ml : Nat} {ret r : Option FieldType} {rm : Room} {as' : Array Value} {Q : Option Value → Heap → List Loc → Prop} {own C : String} {index : Nat} {ps : List FieldType}
theorem g_pure {V : Option Value} {rest : List Value} (h1 : rm.cells = 0) (h2 : rm.slots = 0) (G : ∀ T', Stand p l e R s m args below meth c T' locs cells slots → T'.heap = h → Go p e below W (T'.setTop (mkF m q Ls (V.toList ++ rest)))) :
    ∀ v T' L, Stand p l e R s m args below meth c T' (locs ++ L) (cells + rm.cells) (slots + rm.slots) → Pur V h v T'.heap L → Go p e below W (T'.setTop (mkF m q Ls (v.toList ++ rest))) := by
  intro v T' L X' hQ
  obtain ⟨rfl, rfl, e'⟩ := hQ
  rw [h1, h2, List.append_nil] at X'
  exact G T' X' e'
theorem g_callS (X : Stand p l e R s m args below meth c T locs cells slots) (hx : p.tables.exec = Jvm.exec) (hZ : Z.Warmed39 s.vm) (hown : s.vm.findClass own = some m.cls) (w1 : (Jvm.Cond.methodLink own index y).before a0 Z = true) (w2 : (Jvm.Cond.static y).before a0 Z = true) (w3 : (Jvm.Cond.initialized y.cls).before a0 Z = true) (w4 : (Jvm.Cond.code y bytes ml ret).before a0 Z = true)
    (hy : y.cls ≠ "java/lang/invoke/MethodHandle" ∧ y.cls ≠ "java/lang/invoke/VarHandle") (eT : T.heap = h) (hM : Con l Z h y bytes ml ret rm as' Q) (hsz : Ls.size = c.maxLocals) {argsL rest : List Value} (hst : St = argsL.reverse ++ rest) (has : argsL.toArray = as') (hpd : parseMethodDescriptor y.desc = some ⟨ps, r⟩) (hln : argsL.length = ps.length)
    (hf : rm.frames + 1 ≤ R.frames) (hl : (rest.map fun v => v.category).sum + (ml + 11) + rm.locals ≤ R.locals) (hc : cells + rm.cells ≤ R.cells) (hs : slots + rm.slots ≤ R.slots) (hd : decode c.code pc = .ok (.invokestatic index, 3)) (hq : pc + 3 = q)
    (G : ∀ v T' L, Stand p l e R s m args below meth c T' (locs ++ L) (cells + rm.cells) (slots + rm.slots) → Q v T'.heap L → Go p e below W (T'.setTop (mkF m q Ls (v.toList ++ rest)))) : Go p e below W (T.setTop (mkF m pc Ls St)) := by
  subst hq has
  obtain ⟨v, _, ⟨T', L', k', n'⟩, -, X', ⟨L, hQ, l', y', z'⟩, st⟩ := Jvm.LawKit.callS X hx hown (mvT hZ w1) (mvT hZ w2) (mvT hZ w3) (mvT hZ w4) hy (backOf (W := (rest.map fun v => v.category).sum) (hM []) hZ w4 w3 hf hl) (g := mkF m pc Ls St) rfl hsz (argsL := argsL) (rest := rest) (lenOf hpd hln) hst (by simp) hd (fun _ _ => ⟨rfl, eT, hc, hs⟩)
  dsimp only [Pt.U, Pt.locs, Pt.cells, Pt.slots] at X' l' y' z' st hQ
  subst l' y' z'
  exact (G v T' L X' hQ).on st
theorem g_callV (X : Stand p l e R s m args below meth c T locs cells slots) (hx : p.tables.exec = Jvm.exec) (hZ : Z.Warmed39 s.vm) (hown : s.vm.findClass own = some m.cls) (w1 : (Jvm.Cond.methodLink own index y).before a0 Z = true) (w2 : (Jvm.Cond.declares y).before a0 Z = true) (w3 : (Jvm.Cond.selects C y z).before a0 Z = true) (w4 : (Jvm.Cond.instanceMethod z).before a0 Z = true) (w5 : (Jvm.Cond.code z bytes ml ret).before a0 Z = true) (w6 : (Jvm.Cond.initialized z.cls).before a0 Z = true)
    (hnf : NotFace s y) (hy : y.cls ≠ "java/lang/invoke/MethodHandle" ∧ y.cls ≠ "java/lang/invoke/VarHandle") (eT : T.heap = h) {b : Addr} (E : Exa Z h b C) (hM : Con l Z h z bytes ml ret rm as' Q) (hsz : Ls.size = c.maxLocals) {argsL rest : List Value} (hst : St = argsL.reverse ++ .ref b :: rest) (has : (Value.ref b :: argsL).toArray = as') (hpd : parseMethodDescriptor y.desc = some ⟨ps, r⟩) (hln : argsL.length = ps.length)
    (hf : rm.frames + 1 ≤ R.frames) (hl : (rest.map fun v => v.category).sum + (ml + 11) + rm.locals ≤ R.locals) (hc : cells + rm.cells ≤ R.cells) (hs : slots + rm.slots ≤ R.slots) (hd : decode c.code pc = .ok (.invokevirtual index, 3)) (hq : pc + 3 = q)
    (G : ∀ v T' L, Stand p l e R s m args below meth c T' (locs ++ L) (cells + rm.cells) (slots + rm.slots) → Q v T'.heap L → Go p e below W (T'.setTop (mkF m q Ls (v.toList ++ rest)))) : Go p e below W (T.setTop (mkF m pc Ls St)) := by
  subst hq has
  obtain ⟨cq, kq, qa, qb, qc⟩ := isOf hZ eT E
  obtain ⟨v, _, ⟨T', L', k', n'⟩, -, X', ⟨L, hQ, l', y', z'⟩, st⟩ := X.virtualBack hx hown (mvT hZ w1) (mvT hZ w2) hnf (mvT hZ w3) (mvT hZ w4) hy (backOf (W := (rest.map fun v => v.category).sum) (hM []) hZ w5 w6 hf hl) qa qc (g := mkF m pc Ls St) rfl hsz (Steps.refl _) (argsL := argsL) (rest := rest) (lenOf hpd hln) hst (by simp) hd (fun _ _ => ⟨rfl, eT, hc, hs⟩)
  dsimp only [Pt.U, Pt.locs, Pt.cells, Pt.slots] at X' l' y' z' st hQ
  subst l' y' z'
  exact (G v T' L X' hQ).on fun t k => st.trans k
theorem g_callI (X : Stand p l e R s m args below meth c T locs cells slots) (hx : p.tables.exec = Jvm.exec) (hZ : Z.Warmed39 s.vm) (hown : s.vm.findClass own = some m.cls) (hnm : y.name = "<init>") (w1 : (Jvm.Cond.methodLink own index y).before a0 Z = true) (w2 : (Jvm.Cond.instanceMethod y).before a0 Z = true) (w3 : (Jvm.Cond.code y bytes ml none).before a0 Z = true) (w4 : (Jvm.Cond.initialized y.cls).before a0 Z = true)
    (hy : y.cls ≠ "java/lang/invoke/MethodHandle" ∧ y.cls ≠ "java/lang/invoke/VarHandle") (eT : T.heap = h) {b : Addr} (hM : Con l Z h y bytes ml none rm as' Q) (hsz : Ls.size = c.maxLocals) {argsL rest : List Value} (hst : St = argsL.reverse ++ .ref b :: rest) (has : (Value.ref b :: argsL).toArray = as') (hpd : parseMethodDescriptor y.desc = some ⟨ps, r⟩) (hln : argsL.length = ps.length)
    (hf : rm.frames + 1 ≤ R.frames) (hl : (rest.map fun v => v.category).sum + (ml + 11) + rm.locals ≤ R.locals) (hc : cells + rm.cells ≤ R.cells) (hs : slots + rm.slots ≤ R.slots) (hd : decode c.code pc = .ok (.invokespecial index, 3)) (hq : pc + 3 = q)
    (G : ∀ v T' L, Stand p l e R s m args below meth c T' (locs ++ L) (cells + rm.cells) (slots + rm.slots) → Q v T'.heap L → Go p e below W (T'.setTop (mkF m q Ls (v.toList ++ rest)))) : Go p e below W (T.setTop (mkF m pc Ls St)) := by
  subst hq has
  obtain ⟨v, _, ⟨T', L', k', n'⟩, -, X', ⟨L, hQ, l', y', z'⟩, st⟩ := X.specialBack hx (y := y) hnm hown (mvT hZ w1) (mvT hZ w2) (mvT hZ w3) hy (backOf (W := (rest.map fun v => v.category).sum) (hM []) hZ w3 w4 hf hl) (g := mkF m pc Ls St) rfl hsz (Steps.refl _) (a := b) (argsL := argsL) (rest := rest) (lenOf hpd hln) hst (by simp) hd (fun _ _ => ⟨rfl, eT, hc, hs⟩)
  dsimp only [Pt.U, Pt.locs, Pt.cells, Pt.slots] at X' l' y' z' st hQ
  subst l' y' z'
  exact (G v T' L X' hQ).on fun t k => st.trans k
end Calls
end OwnKit
section OwnMore
theorem own_sta_keep {Z : State} {h h' : Heap} {C n d : String} {w : Value} {ws : List Addr} (F : Sta Z h C n d w) (K : Keep h h' ws) (hn : ∀ x ∈ ws, ∀ cell : Cell, h[x]? = some cell → cell.vm.isStatics = false) : Sta Z h' C n d w := by
  obtain ⟨cf, i, k, f, st, cell, h1, h2, h3, h4, h5, h6, h7⟩ := F
  exact ⟨cf, i, k, f, st, cell, h1, h2, h3, h4, K.2.1 _ _ h5 (fun q => by rw [hn _ q _ h5] at h6; cases h6), h6, h7⟩
theorem own_cat1 {v : Value} (h : v.isRef = true) : v.category = 1 := by cases v <;> first | rfl | cases h
theorem own_nar {C : String} {v : Value} (h : v.isRef = true) : narrow (.object C) v = v := by cases v <;> first | rfl | cases h
theorem own_fit {C : String} {v : Value} (h : v.isRef = true) : fits (.object C) v = true := by cases v <;> first | rfl | cases h
theorem own_noref {a b : Addr} (h : ¬ a = b) : ¬ (Value.ref a = Value.ref b) := fun q => h (Value.ref.inj q)
end OwnMore
section OwnStart
variable {args : Array Value} {s : State}
theorem own_fldI {t : Term} {C n d : String} {k : Int32} {a : Addr} (ev : t.eval args s none [] s = some (.ref a)) (hh : (Jvm.Cond.eq (Term.field t C n d) (Term.int k)).value args s none s [] = some true) : Fld s s.heap a C n d (.int k) := by
  obtain ⟨x, y, e1, e2, k1, k2⟩ := cmp_v (Or.inl hh)
  obtain rfl : y = .int k := (Option.some.inj ((Term.int_eval k).symm.trans e2)).symm
  obtain ⟨z, rfl⟩ := k2
  have q : z = k := by simpa [Cond.value, e1, e2] using hh
  subst q
  exact Fld.start ((fld_at ev).symm.trans e1)
theorem own_fldJ {t : Term} {C n d : String} {k : Int64} {a : Addr} (ev : t.eval args s none [] s = some (.ref a)) (hh : (Jvm.Cond.eq (Term.field t C n d) (Term.long k)).value args s none s [] = some true) : Fld s s.heap a C n d (.long k) := by
  obtain ⟨x, y, e1, e2, k1, k2⟩ := cmp_v (Or.inl hh)
  obtain rfl : y = .long k := (Option.some.inj ((long_at k).symm.trans e2)).symm
  obtain ⟨z, rfl⟩ := k2
  have q : z = k := by simpa [Cond.value, e1, e2] using hh
  subst q
  exact Fld.start ((fld_at ev).symm.trans e1)
end OwnStart
section OwnArr
variable {p : Program} {l : Launch} {e : Env} {R : Room} {s : State} {m : MethodId} {args : Array Value} {below : List Frame} {meth : Method} {c : Code} {T : State} {locs : List Loc} {cells slots : Nat} {Z : State} {a0 : Array Value} {h h' : Heap} {W : State → Prop} {pc q : Nat} {Ls : Array Slot} {St : List Value} {ty : FieldType} {n : Nat} {f g : Nat → Value} {a b : Addr} {sl : Nat} {v : Value}
/-- the array at a: of ty, n places, place i holds f i -/
def Af (Z : State) (h : Heap) (a : Addr) (ty : FieldType) (n : Nat) (f : Nat → Value) : Prop := ∃ cl : Cell, Arr Z h a cl ty ∧ cl.slots.size = n ∧ ∀ i, i < n → cl.slots[i]? = some (f i)
theorem Af.lt (F : Af Z h a ty n f) : a < h.size := by obtain ⟨c, A, -⟩ := F; exact A.lt
theorem Af.ext (F : Af Z h a ty n f) (E : Ext h h') : Af Z h' a ty n f := by obtain ⟨c, A, r⟩ := F; exact ⟨c, A.ext E, r⟩
theorem Af.other (F : Af Z h b ty n f) (W : Wr h h' a sl v) (q : b ≠ a) : Af Z h' b ty n f := by obtain ⟨c, A, r⟩ := F; exact ⟨c, A.other W q, r⟩
theorem Af.keep {ws : List Addr} (F : Af Z h a ty n f) (K : Keep h h' ws) (q : a ∉ ws) : Af Z h' a ty n f := by obtain ⟨c, A, r⟩ := F; exact ⟨c, ⟨K.2.1 a c A.1 q, A.2⟩, r⟩
theorem Af.nostat (F : Af Z h a ty n f) : ∀ cell : Cell, h[a]? = some cell → cell.vm.isStatics = false := by
  obtain ⟨c, A, -⟩ := F; exact A.nostat
theorem Af.congr (F : Af Z h a ty n f) (q : ∀ i, i < n → f i = g i) : Af Z h a ty n g := by
  obtain ⟨c, A, s1, s2⟩ := F; exact ⟨c, A, s1, fun i hi => by rw [← q i hi]; exact s2 i hi⟩
theorem Af.fresh {k : ClassId} {z : Int32} (A : Arr Z h a (newA k ty z) ty) : Af Z h a ty z.toNatClampNeg (fun _ => defaultValue ty) := ⟨_, A, sz_new _ _ _, fun i hi => by simp [newA, hi]⟩
theorem Af.set (F : Af Z h a ty n f) {j : Nat} (W : Wr h h' a j v) (hj : j < n) : Af Z h' a ty n (fun i => if i = j then v else f i) := by
  obtain ⟨c, A, s1, s2⟩ := F
  refine ⟨c.setSlot j v, A.same W, by rw [sz_set]; exact s1, fun i hi => ?_⟩
  show (c.slots.setIfInBounds j v)[i]? = some (if i = j then v else f i)
  by_cases hij : i = j
  · subst hij; rw [if_pos rfl, Array.getElem?_setIfInBounds_self_of_lt (by rw [s1]; exact hj)]
  · rw [if_neg hij, Array.getElem?_setIfInBounds_ne (Ne.symm hij)]; exact s2 i hi
theorem Af.size_eq {n' : Nat} (F : Af Z h a ty n f) (q : n = n') : Af Z h a ty n' f := q ▸ F
theorem g_len (X : Stand p l e R s m args below meth c T locs cells slots) (hx : p.tables.exec = Jvm.exec) (hZ : Z.Warmed39 s.vm) (eT : T.heap = h) (V : Af Z h a ty n f) {z : Int32} (hz : n.toInt32 = z) (hd : decode c.code pc = .ok (.arraylength, 1)) (hq : pc + 1 = q)
    (G : Go p e below W (T.setTop (mkF m q Ls (.int z :: St)))) : Go p e below W (T.setTop (mkF m pc Ls (.ref a :: St))) := by
  obtain ⟨cl, A, s1, s2⟩ := V
  subst hq hz
  exact G.on fun t k => X.arraylength hx (by rw [eT]; exact A.1) (State.isArrayOf_alike hZ.alike A.2.1) (g := mkF m pc Ls (.ref a :: St)) rfl rfl hd t (by rw [s1]; exact k)
section Loads
variable {j : Int32}
theorem own_in {cl : Cell} (s1 : cl.slots.size = n) (h0 : ¬ j < 0) (h1 : j.toNatClampNeg < n) : ¬ (j < 0 ∨ cl.slots.size ≤ j.toNatClampNeg) := fun q => q.elim h0 fun r => absurd h1 (by omega)
theorem g_iaload (X : Stand p l e R s m args below meth c T locs cells slots) (hx : p.tables.exec = Jvm.exec) (hZ : Z.Warmed39 s.vm) (eT : T.heap = h) (V : Af Z h a .int n f) (h0 : ¬ j < 0) (h1 : j.toNatClampNeg < n) (hv : f j.toNatClampNeg = v) (hd : decode c.code pc = .ok (.iaload, 1)) (hq : pc + 1 = q)
    (G : Go p e below W (T.setTop (mkF m q Ls (v :: St)))) : Go p e below W (T.setTop (mkF m pc Ls (.int j :: .ref a :: St))) := by
  obtain ⟨cl, A, s1, s2⟩ := V
  subst hq hv
  exact G.on fun t k => X.iaload hx (by rw [eT]; exact A.1) (State.isArrayOf_alike hZ.alike A.2.1) A.2.2 (own_in s1 h0 h1) (s2 _ h1) (g := mkF m pc Ls (.int j :: .ref a :: St)) rfl rfl hd t k
theorem g_laload (X : Stand p l e R s m args below meth c T locs cells slots) (hx : p.tables.exec = Jvm.exec) (hZ : Z.Warmed39 s.vm) (eT : T.heap = h) (V : Af Z h a .long n f) (h0 : ¬ j < 0) (h1 : j.toNatClampNeg < n) (hv : f j.toNatClampNeg = v) (hd : decode c.code pc = .ok (.laload, 1)) (hq : pc + 1 = q)
    (G : Go p e below W (T.setTop (mkF m q Ls (v :: St)))) : Go p e below W (T.setTop (mkF m pc Ls (.int j :: .ref a :: St))) := by
  obtain ⟨cl, A, s1, s2⟩ := V
  subst hq hv
  exact G.on fun t k => X.laload hx (by rw [eT]; exact A.1) (State.isArrayOf_alike hZ.alike A.2.1) A.2.2 (own_in s1 h0 h1) (s2 _ h1) (g := mkF m pc Ls (.int j :: .ref a :: St)) rfl rfl hd t k
theorem g_baload (X : Stand p l e R s m args below meth c T locs cells slots) (hx : p.tables.exec = Jvm.exec) (hZ : Z.Warmed39 s.vm) (eT : T.heap = h) (V : Af Z h a .byte n f) (h0 : ¬ j < 0) (h1 : j.toNatClampNeg < n) (hv : f j.toNatClampNeg = v) (hd : decode c.code pc = .ok (.baload, 1)) (hq : pc + 1 = q)
    (G : Go p e below W (T.setTop (mkF m q Ls (v :: St)))) : Go p e below W (T.setTop (mkF m pc Ls (.int j :: .ref a :: St))) := by
  obtain ⟨cl, A, s1, s2⟩ := V
  subst hq hv
  exact G.on fun t k => X.baloadBytes hx (by rw [eT]; exact A.1) (State.isArrayOf_alike hZ.alike A.2.1) A.2.2 (own_in s1 h0 h1) (s2 _ h1) (g := mkF m pc Ls (.int j :: .ref a :: St)) rfl rfl hd t k
theorem g_aaload (X : Stand p l e R s m args below meth c T locs cells slots) (hx : p.tables.exec = Jvm.exec) (hZ : Z.Warmed39 s.vm) (eT : T.heap = h) (V : Af Z h a ty n f) (hty : ty.isReference = true) (h0 : ¬ j < 0) (h1 : j.toNatClampNeg < n) (hv : f j.toNatClampNeg = v) (hd : decode c.code pc = .ok (.aaload, 1)) (hq : pc + 1 = q)
    (G : Go p e below W (T.setTop (mkF m q Ls (v :: St)))) : Go p e below W (T.setTop (mkF m pc Ls (.int j :: .ref a :: St))) := by
  obtain ⟨cl, A, s1, s2⟩ := V
  subst hq hv
  exact G.on fun t k => X.aaload hx (by rw [eT]; exact A.1) (State.isArrayOf_alike hZ.alike A.2.1) hty A.2.2 (own_in s1 h0 h1) (s2 _ h1) (g := mkF m pc Ls (.int j :: .ref a :: St)) rfl rfl hd t k
theorem g_bastore (X : Stand p l e R s m args below meth c T locs cells slots) (hx : p.tables.exec = Jvm.exec) (hZ : Z.Warmed39 s.vm) (eT : T.heap = h) (V : Af Z h a .byte n f) {x y : Int32} (h0 : ¬ j < 0) (h1 : j.toNatClampNeg < n) (hy : nar .byte x = y) (hd : decode c.code pc = .ok (.bastore, 1)) (hq : pc + 1 = q)
    (G : ∀ T' h', Stand p l e R s m args below meth c T' (locs ++ [⟨a, j.toNatClampNeg⟩]) cells slots → T'.heap = h' → Wr h h' a j.toNatClampNeg (.int y) → Af Z h' a .byte n (fun i => if i = j.toNatClampNeg then .int y else f i) → Go p e below W (T'.setTop (mkF m q Ls St))) : Go p e below W (T.setTop (mkF m pc Ls (.int x :: .int j :: .ref a :: St))) := by
  have V' := V
  obtain ⟨cl, A, s1, s2⟩ := V
  subst hq hy
  obtain ⟨T', h', X', e', W', st⟩ := stB X hx hZ eT A (own_in s1 h0 h1) (g := mkF m pc Ls (.int x :: .int j :: .ref a :: St)) rfl rfl hd
  exact (G T' h' X' e' W' (V'.set W' h1)).on st
theorem g_lastore (X : Stand p l e R s m args below meth c T locs cells slots) (hx : p.tables.exec = Jvm.exec) (hZ : Z.Warmed39 s.vm) (eT : T.heap = h) (V : Af Z h a .long n f) {x : Int64} (h0 : ¬ j < 0) (h1 : j.toNatClampNeg < n) (hd : decode c.code pc = .ok (.lastore, 1)) (hq : pc + 1 = q)
    (G : ∀ T' h', Stand p l e R s m args below meth c T' (locs ++ [⟨a, j.toNatClampNeg⟩]) cells slots → T'.heap = h' → Wr h h' a j.toNatClampNeg (.long x) → Af Z h' a .long n (fun i => if i = j.toNatClampNeg then .long x else f i) → Go p e below W (T'.setTop (mkF m q Ls St))) : Go p e below W (T.setTop (mkF m pc Ls (.long x :: .int j :: .ref a :: St))) := by
  have V' := V
  obtain ⟨cl, A, s1, s2⟩ := V
  subst hq
  obtain ⟨T', h', X', e', W', st⟩ := stJ X hx hZ eT A (own_in s1 h0 h1) (g := mkF m pc Ls (.long x :: .int j :: .ref a :: St)) rfl rfl hd
  exact (G T' h' X' e' W' (V'.set W' h1)).on st
theorem g_iastore (X : Stand p l e R s m args below meth c T locs cells slots) (hx : p.tables.exec = Jvm.exec) (hZ : Z.Warmed39 s.vm) (eT : T.heap = h) (V : Af Z h a .int n f) {x : Int32} (h0 : ¬ j < 0) (h1 : j.toNatClampNeg < n) (hd : decode c.code pc = .ok (.iastore, 1)) (hq : pc + 1 = q)
    (G : ∀ T' h', Stand p l e R s m args below meth c T' (locs ++ [⟨a, j.toNatClampNeg⟩]) cells slots → T'.heap = h' → Wr h h' a j.toNatClampNeg (.int x) → Af Z h' a .int n (fun i => if i = j.toNatClampNeg then .int x else f i) → Go p e below W (T'.setTop (mkF m q Ls St))) : Go p e below W (T.setTop (mkF m pc Ls (.int x :: .int j :: .ref a :: St))) := by
  have V' := V
  obtain ⟨cl, A, s1, s2⟩ := V
  subst hq
  obtain ⟨T', h', X', e', W', st⟩ := stI X hx hZ eT A (own_in s1 h0 h1) (g := mkF m pc Ls (.int x :: .int j :: .ref a :: St)) rfl rfl hd
  exact (G T' h' X' e' W' (V'.set W' h1)).on st
theorem g_aastore (X : Stand p l e R s m args below meth c T locs cells slots) (hx : p.tables.exec = Jvm.exec) (hZ : Z.Warmed39 s.vm) (eT : T.heap = h) (V : Af Z h a ty n f) (hty : ty.isReference = true) (h0 : ¬ j < 0) (h1 : j.toNatClampNeg < n) (F : Sto Z h a v) (hd : decode c.code pc = .ok (.aastore, 1)) (hq : pc + 1 = q)
    (G : ∀ T' h', Stand p l e R s m args below meth c T' (locs ++ [⟨a, j.toNatClampNeg⟩]) cells slots → T'.heap = h' → Wr h h' a j.toNatClampNeg v → Af Z h' a ty n (fun i => if i = j.toNatClampNeg then v else f i) → Go p e below W (T'.setTop (mkF m q Ls St))) : Go p e below W (T.setTop (mkF m pc Ls (v :: .int j :: .ref a :: St))) := by
  have V' := V
  obtain ⟨cl, A, s1, s2⟩ := V
  subst hq
  obtain ⟨T', h', X', e', W', st⟩ := stR X hx hZ eT A (own_in s1 h0 h1) hty F (g := mkF m pc Ls (v :: .int j :: .ref a :: St)) rfl rfl hd
  exact (G T' h' X' e' W' (V'.set W' h1)).on st
end Loads
theorem g_newR (X : Stand p l e R s m args below meth c T locs cells slots) (hx : p.tables.exec = Jvm.exec) (hZ : Z.Warmed39 s.vm) {own C : String} {index : Nat} (hown : s.vm.findClass own = some m.cls) (w1 : (Jvm.Cond.classLink own index C).before a0 Z = true) (w2 : (Jvm.Cond.arrayOver (.object C)).before a0 Z = true) (eT : T.heap = h) (hd : decode c.code pc = .ok (.anewarray index, 3)) {z : Int32} (hn : ¬ z < 0) {cap : Nat} (hcap : z.toNatClampNeg ≤ cap) (hb : cap * 8 ≤ 536870912) (hc : cells + 1 ≤ R.cells) (hl : slots + cap ≤ R.slots) (hq : pc + 3 = q)
    (G : ∀ T' h' cA b, b = h.size → Stand p l e R s m args below meth c T' locs (cells + 1) (slots + cap) → T'.heap = h' → Ext h h' → Arr Z h' b (newA cA (.object C) z) (.object C) → Ovr Z cA C → Go p e below W (T'.setTop (mkF m q Ls (.ref b :: St)))) :
    Go p e below W (T.setTop (mkF m pc Ls (.int z :: St))) := by
  subst hq
  obtain ⟨T', h', cA, X', e', E', A', O', st⟩ := newR X hx hZ hown w1 w2 eT (g := mkF m pc Ls (.int z :: St)) rfl hd rfl hn hcap hb hc hl
  exact (G T' h' cA _ rfl X' e' E' A' O').on st
/-- an array over C takes an object of C; carried over steps -/
def Ov (Z : State) (h : Heap) (a : Addr) (C : String) : Prop := ∃ cl : Cell, Arr Z h a cl (.object C) ∧ Ovr Z cl.cls C
theorem Ov.sto {C : String} {y : Addr} (O : Ov Z h a C) (I : Ins Z h y C true) : Sto Z h a (.ref y) := by obtain ⟨cl, A, o⟩ := O; exact Sto.of A o I
theorem Ov.fresh {k : ClassId} {z : Int32} {C : String} (A : Arr Z h a (newA k (.object C) z) (.object C)) (O : Ovr Z k C) : Ov Z h a C := ⟨_, A, O⟩
theorem Ov.ext {C : String} (O : Ov Z h a C) (E : Ext h h') : Ov Z h' a C := by obtain ⟨cl, A, o⟩ := O; exact ⟨cl, A.ext E, o⟩
theorem Ov.wr {C : String} (O : Ov Z h a C) (W : Wr h h' b sl v) : Ov Z h' a C := by
  obtain ⟨cl, A, o⟩ := O
  by_cases q : a = b
  · subst q; exact ⟨_, A.same W, o⟩
  · exact ⟨cl, A.other W q, o⟩
end OwnArr
section OwnH
variable {p : Program} {l : Launch} {e : Env} {R : Room} {s : State} {m : MethodId} {args : Array Value} {below : List Frame} {meth : Method} {c : Code} {T : State} {locs : List Loc} {cells slots : Nat} {Z : State} {a0 : Array Value} {h h' : Heap} {W : State → Prop} {pc q : Nat} {Ls : Array Slot} {St : List Value}
/-- a contract whose body wants the tables warmer in the narrow sense -/
def ConH (l : Launch) (Z : State) (h0 : Heap) (y : MethodName) (bytes : ByteArray) (ml : Nat) (ret : Option FieldType) (rm : Room) (as' : Array Value) (Q : Option Value → Heap → List Loc → Prop) : Prop :=
  ∀ ws : List Jvm.Cond, MetFree l y (head1 (Jvm.Cond.code y bytes ml ret :: ws) rm) (fun a U => a = as' ∧ Z.WarmedH U.vm ∧ U.heap = h0) (fun _ _ _ _ _ => True) (fun _ U o U' => ∃ v L, o = .returned v ∧ Q v U'.heap L ∧ FrameEnd U o U' L rm.cells rm.slots)
theorem con_ofH {h0 : Heap} {y : MethodName} {bytes : ByteArray} {ml : Nat} {ret : Option FieldType} {rm : Room} {as' : Array Value} {Q : Option Value → Heap → List Loc → Prop} (hpl : plainFor y = true) {Ls : Array Slot}
    (hef : ∀ m : MethodId, entryFrame m as' ml = mkF m 0 Ls [])
    (body : ∀ (p : Program) (e : Env) (s : State) (m : MethodId) (below : List Frame) (meth : Method) (c : Code) (s₁ : State), p.tables.exec = Jvm.exec → Z.WarmedH s.vm → c.code = bytes → c.maxLocals = ml → meth.sig.returnType = ret → meth.locks = false → meth.name = y.name → s.vm.findClass y.cls = some m.cls → s.methodNamed? y = some m →
      Stand p l e rm s m as' below meth c s₁ [] 0 0 → s₁.heap = h0 → Go p e below (Wd s below Q rm.cells rm.slots) (s₁.setTop (mkF m 0 Ls []))) : ConH l Z h0 y bytes ml ret rm as' Q := by
  intro ws
  refine MetFree.of_bodySF hpl hisR ?_
  intro p e s m args below meth c s₁ Bd hml0 hP hK
  obtain ⟨rfl, hZ, hh⟩ := hP
  obtain ⟨U, h1, h2, v, h3, L, h4, h5⟩ := body p e s m below meth c s₁ Bd.exec hZ Bd.bytes hml0 Bd.returns Bd.notSynchronized (name_of_methodNamed Bd.named Bd.method).1 (findClass_of_methodNamed Bd.named) Bd.named (Stand.of_body Bd) (by rw [← hh, Bd.state]; rfl)
  rw [← hef] at h1
  exact ⟨U, _, h1, h2, h3, v, L, rfl, h4, h5⟩
section BackH
variable {y z : MethodName} {bytes : ByteArray} {ml : Nat} {ret r : Option FieldType} {rm : Room} {as' : Array Value} {Q : Option Value → Heap → List Loc → Prop} {own C : String} {index : Nat} {ps : List FieldType}
theorem backOfH {len W : Nat} (hM : ConH l Z h y bytes ml ret rm as' Q) (hH : Z.WarmedH s.vm) (wc : (Jvm.Cond.code y bytes ml ret).before a0 Z = true) (wz : (Jvm.Cond.initialized y.cls).before a0 Z = true) (hf : rm.frames + 1 ≤ R.frames) (hl : W + (ml + 11) + rm.locals ≤ R.locals) :
    Back l R p e below s args y len W (fun A a => a = as' ∧ A.U.heap = h ∧ A.cells + rm.cells ≤ R.cells ∧ A.slots + rm.slots ≤ R.slots)
      (fun A _ v B => ∃ L, Q v B.U.heap L ∧ B.locs = A.locs ++ L ∧ B.cells = A.cells + rm.cells ∧ B.slots = A.slots + rm.slots) :=
  Back.of_free (bytes := bytes) (maxL := ml) (ret := ret) (E := fun _ _ o t L k n => k = rm.cells ∧ n = rm.slots ∧ ∃ v, o = .returned v ∧ Q v t.heap L) (hM []) hf hl
    (fun m meth c A a Y hp => have hU : Z.Warmed39 A.U.vm := wtrans hH.wide Y.warmed
      ⟨by show (Jvm.Cond.and _ .tt).before a A.U = true; rw [Cond.before_and, mv hU wc]; rfl, mv hU wc, mv hU wz, hp.2.2.1, hp.2.2.2⟩)
    (fun m meth c A a g mk Y hp => ⟨hp.1, State.WarmedH.trans hH Y.warmed, hp.2.1⟩) (fun _ _ _ _ _ _ _ _ _ => trivial)
    (fun _ _ _ _ ⟨v, L, h1, h2, h3⟩ => ⟨L, _, _, h3, rfl, rfl, v, h1, h2⟩)
    (fun m meth c A a g mk v t L k n Y hp _ _ ⟨e1, e2, v', e3, e4⟩ => by cases e3; subst e1 e2; exact ⟨L, e4, rfl, rfl, rfl⟩)
theorem g_callVH (X : Stand p l e R s m args below meth c T locs cells slots) (hx : p.tables.exec = Jvm.exec) (hH : Z.WarmedH s.vm) (hown : s.vm.findClass own = some m.cls) (w1 : (Jvm.Cond.methodLink own index y).before a0 Z = true) (w2 : (Jvm.Cond.declares y).before a0 Z = true) (w3 : (Jvm.Cond.selects C y z).before a0 Z = true) (w4 : (Jvm.Cond.instanceMethod z).before a0 Z = true) (w5 : (Jvm.Cond.code z bytes ml ret).before a0 Z = true) (w6 : (Jvm.Cond.initialized z.cls).before a0 Z = true)
    (hnf : NotFace s y) (hy : y.cls ≠ "java/lang/invoke/MethodHandle" ∧ y.cls ≠ "java/lang/invoke/VarHandle") (eT : T.heap = h) {b : Addr} (E : Exa Z h b C) (hM : ConH l Z h z bytes ml ret rm as' Q) (hsz : Ls.size = c.maxLocals) {argsL rest : List Value} (hst : St = argsL.reverse ++ .ref b :: rest) (has : (Value.ref b :: argsL).toArray = as') (hpd : parseMethodDescriptor y.desc = some ⟨ps, r⟩) (hln : argsL.length = ps.length)
    (hf : rm.frames + 1 ≤ R.frames) (hl : (rest.map fun v => v.category).sum + (ml + 11) + rm.locals ≤ R.locals) (hc : cells + rm.cells ≤ R.cells) (hs : slots + rm.slots ≤ R.slots) (hd : decode c.code pc = .ok (.invokevirtual index, 3)) (hq : pc + 3 = q)
    (G : ∀ v T' L, Stand p l e R s m args below meth c T' (locs ++ L) (cells + rm.cells) (slots + rm.slots) → Q v T'.heap L → Go p e below W (T'.setTop (mkF m q Ls (v.toList ++ rest)))) : Go p e below W (T.setTop (mkF m pc Ls St)) := by
  subst hq has
  have hZ := hH.wide
  obtain ⟨cq, kq, qa, qb, qc⟩ := isOf hZ eT E
  obtain ⟨v, _, ⟨T', L', k', n'⟩, -, X', ⟨L, hQ, l', y', z'⟩, st⟩ := X.virtualBack hx hown (mvT hZ w1) (mvT hZ w2) hnf (mvT hZ w3) (mvT hZ w4) hy (backOfH (W := (rest.map fun v => v.category).sum) hM hH w5 w6 hf hl) qa qc (g := mkF m pc Ls St) rfl hsz (Steps.refl _) (argsL := argsL) (rest := rest) (lenOf hpd hln) hst (by simp) hd (fun _ _ => ⟨rfl, eT, hc, hs⟩)
  dsimp only [Pt.U, Pt.locs, Pt.cells, Pt.slots] at X' l' y' z' st hQ
  subst l' y' z'
  exact (G v T' L X' hQ).on fun t k => st.trans k
/-- invokevirtual of a private method, without a 'selects' word: the class is no interface by 'instantiable' -/
theorem g_callPH {kk : Nat} (X : Stand p l e R s m args below meth c T locs cells slots) (hx : p.tables.exec = Jvm.exec) (hH : Z.WarmedH s.vm) (hown : s.vm.findClass own = some m.cls) (w1 : (Jvm.Cond.methodLink own index y).before a0 Z = true) (w2 : (Jvm.Cond.instanceMethod y).before a0 Z = true) (w3 : (Jvm.Cond.privateMethod y).before a0 Z = true) (w4 : (Jvm.Cond.instantiable y.cls kk).before a0 Z = true) (w5 : (Jvm.Cond.code y bytes ml ret).before a0 Z = true) (w6 : (Jvm.Cond.initialized y.cls).before a0 Z = true)
    (hy : y.cls ≠ "java/lang/invoke/MethodHandle" ∧ y.cls ≠ "java/lang/invoke/VarHandle") (eT : T.heap = h) {b : Addr} (E : Exa Z h b C) (hM : ConH l Z h y bytes ml ret rm as' Q) (hsz : Ls.size = c.maxLocals) {argsL rest : List Value} (hst : St = argsL.reverse ++ .ref b :: rest) (has : (Value.ref b :: argsL).toArray = as') (hpd : parseMethodDescriptor y.desc = some ⟨ps, r⟩) (hln : argsL.length = ps.length)
    (hf : rm.frames + 1 ≤ R.frames) (hl : (rest.map fun v => v.category).sum + (ml + 11) + rm.locals ≤ R.locals) (hc : cells + rm.cells ≤ R.cells) (hs : slots + rm.slots ≤ R.slots) (hd : decode c.code pc = .ok (.invokevirtual index, 3)) (hq : pc + 3 = q)
    (G : ∀ v T' L, Stand p l e R s m args below meth c T' (locs ++ L) (cells + rm.cells) (slots + rm.slots) → Q v T'.heap L → Go p e below W (T'.setTop (mkF m q Ls (v.toList ++ rest)))) : Go p e below W (T.setTop (mkF m pc Ls St)) := by
  subst hq has
  have hZ := hH.wide
  obtain ⟨cell, hcell, hobj⟩ := E.cell
  have hcell' : T.heap[b]? = some cell := by rw [eT]; exact hcell
  obtain ⟨mk, methM, hnamed, hmethM, hstM, habM⟩ := Cond.instanceMethod_spec (mvT (args := args) hZ w2)
  obtain ⟨methM', cM, hmethM', -, -, -, -, -, -, hsigM⟩ := Cond.code_spec hnamed (mvT (args := args) hZ w5)
  cases hmethM.symm.trans hmethM'
  obtain ⟨cP, kP, hfP, hkP, -, hni, -, -⟩ := Cond.instantiable_spec (mvT (args := args) hZ w4)
  cases hfP.symm.trans (findClass_of_methodNamed hnamed)
  have hni' : kP.isInterface = false := by simp only [Bool.or_eq_false_iff] at hni; exact hni.1
  have hpriv : s.PrivateAt y := Cond.privateMethod_at (mvP hZ w3 (args := #[]))
  have hselP : selectMethod e.platform s.vm cell.cls mk = .method mk := selectMethod_private hmethM (hpriv mk methM hnamed hmethM)
  obtain ⟨vm₁, X₁, hstep₁⟩ := X.invokevirtual hx hown (mvT hZ w1) hnamed hmethM hstM hkP hni' hy (a := b) (cell := cell) hcell' hobj hselP hmethM habM hkP hni' (g := mkF m pc Ls St) rfl (argsL := argsL) (rest := rest) (lenOf hpd hln _ hsigM) hst hd
  obtain ⟨v, ⟨T', L', k', n'⟩, X', ⟨L, hQ, l', y', z'⟩, hsteps⟩ := (backOfH (W := (rest.map fun v => v.category).sum) hM hH w5 w6 hf hl : Back l R p e below s args y 3 _ _ _) m meth c ⟨T.setVm vm₁, locs, cells, slots⟩ (mkF m pc Ls rest) (.invokevirtual index) mk (.ref b :: argsL).toArray X₁ rfl hsz hd (by simp) (X₁.named hnamed) ⟨rfl, eT, hc, hs⟩
  dsimp only [Pt.U, Pt.locs, Pt.cells, Pt.slots] at X' l' y' z' hsteps hQ
  subst l' y' z'
  exact (G v T' L X' hQ).on fun t k => (hstep₁ _ fun acts => by rw [doInvoke_state]; exact Steps.refl _).trans (hsteps.trans k)
end BackH
end OwnH
section OwnLam
open Jvm.Free.Fw Jvm.Free.HMW Jvm.Free.Fn Jvm.Lambda
variable {p : Program} {l : Launch} {e : Env} {R : Room} {s : State} {m : MethodId} {args : Array Value} {below : List Frame} {meth : Method} {c : Code} {T : State} {locs : List Loc} {cells slots : Nat} {Z : State} {a0 : Array Value} {h h' : Heap} {W : State → Prop} {pc q : Nat} {Ls : Array Slot} {St : List Value}
abbrev siN : String := "com/example/newlyn/newlyn/storage/SegmentIndex"
abbrev etN : String := "com/example/newlyn/newlyn/storage/SegmentIndex$EntryTest"
abbrev fpN : MethodName := ⟨siN, "floorPosition", "(J)I"⟩
abbrev laN : MethodName := ⟨siN, "lambda$floorPosition$0", "(J[JI)Z"⟩
abbrev teN : MethodName := ⟨etN, "test", "([JI)Z"⟩
def own_sh : Lambda.Shape := Lambda.Shape.mk etN "test" (MethodDescriptor.mk [.array .long, .int] (some .boolean)) [.long] 6 siN "lambda$floorPosition$0" (MethodDescriptor.mk [.long, .array .long, .int] (some .boolean)) false (MethodDescriptor.mk [.array .long, .int] (some .boolean))
def own_fwd : ByteArray := ⟨#[0x2a, 0xb4, 0x00, 0x0f, 0x2b, 0x1c, 0xb8, 0x00, 0x17, 0xac]⟩
theorem own_f0 : decode own_fwd 0 = .ok (.aload_n 0, 1) := by decide +kernel
theorem own_f1 : decode own_fwd 1 = .ok (.getfield 15, 3) := by decide +kernel
theorem own_f4 : decode own_fwd 4 = .ok (.aload_n 1, 1) := by decide +kernel
theorem own_f5 : decode own_fwd 5 = .ok (.iload_n 2, 1) := by decide +kernel
theorem own_f6 : decode own_fwd 6 = .ok (.invokestatic 23, 3) := by decide +kernel
theorem own_f9 : decode own_fwd 9 = .ok (.ireturn, 1) := by decide +kernel
def own_D : ClassFile := (own_sh.file siN).getD { minorVersion := 0, majorVersion := 0, constantPool := #[], accessFlags := 0, thisClass := 0, superClass := 0, interfaces := #[], fields := #[], methods := #[], attributes := #[] }
def own_fw : Method := ((layoutMethods own_D).bind (·[1]?)).getD default
def own_laid : Array Field × Array FieldType × Array FieldType := (layoutFields own_D 0).getD (#[], #[], #[])
theorem own_file : own_sh.file siN = some own_D := by
  have h : (own_sh.file siN).isSome = true := by decide +kernel
  obtain ⟨x, hx⟩ := Option.isSome_iff_exists.mp h
  simp [own_D, hx]
theorem own_second : ∀ ms, layoutMethods own_D = some ms → ms[1]? = some own_fw := by
  intro ms hms
  have h : ((layoutMethods own_D).bind (·[1]?)).isSome = true := by decide +kernel
  obtain ⟨x, hx⟩ := Option.isSome_iff_exists.mp h
  have hf : own_fw = x := by simp [own_fw, hx]
  rw [hms] at hx
  rw [hf]
  exact hx
theorem own_laidIs : layoutFields own_D 0 = some own_laid := by
  have h : (layoutFields own_D 0).isSome = true := by decide +kernel
  obtain ⟨x, hx⟩ := Option.isSome_iff_exists.mp h
  simp [own_laid, hx]
theorem own_fcode : (own_fw.code.map fun c => (c.code.data, c.maxLocals)) = some (own_fwd.data, 3) := by decide +kernel
theorem own_fflags : (own_fw.accessFlags, own_fw.name, own_fw.sig.returnType) = (0x0001, "test", (some .boolean : Option FieldType)) := by decide +kernel
theorem own_eM : own_D.constantPool[23]? = some (.methodref 19 22) ∧ own_D.constantPool.className? 19 = some siN ∧ own_D.constantPool.nameAndType? 22 = some ("lambda$floorPosition$0", "(J[JI)Z") := by decide +kernel
theorem own_eC : own_D.constantPool[19]? = some (.class_ 18) ∧ own_D.constantPool.string? 18 = some siN ∧ 19 ≠ own_D.thisClass := by decide +kernel
theorem own_eF : own_D.constantPool[15]? = some (.fieldref 2 14) ∧ own_D.constantPool.nameAndType? 14 = some ("arg$1", "J") ∧ own_laid.1.findIdx? (·.name == "arg$1") = some 0 ∧ (own_laid.1[0]?).map (fun f => (f.isStatic, f.slot)) = some (false, 0) := by decide +kernel
theorem own_ltypes : own_laid.2.1 = #[.long] := by decide +kernel
/-- what the made class is, in any tables in which the rule has made it -/
theorem own_made {e : Setting} {vm : Vm} {d c : ClassId} {dk : Class} (hd : vm.classes[d]? = some dk) (hname : dk.name = siN) (h : isMade e vm d own_sh c = true)
    (hO : ∀ o ok, vm.findClass "java/lang/Object" = some o → vm.classes[o]? = some ok → ok.instanceTypes.size = 0) :
    ∃ (k tk : Class) (file : ClassFile) (methk : Method) (ck : Code) (toy : ClassId) (t : MethodId) (g0 : Field),
      vm.classes[c]? = some k ∧ k.name = siN ++ "$$Lambda" ∧ k.cf = some file ∧ file.constantPool = own_D.constantPool ∧
      vm.method? ⟨c, 1⟩ = some methk ∧ methk.code = some ck ∧ ck.code = own_fwd ∧ ck.maxLocals = 3 ∧ methk.locks = false ∧ methk.accessFlags = 0x0001 ∧ methk.sig.returnType = some .boolean ∧
      vm.findClass siN = some toy ∧ vm.classes[toy]? = some tk ∧ ((methodIn toy "lambda$floorPosition$0" "(J[JI)Z" tk.isInterface none).ask e vm).1 = .ok t ∧
      vm.methodReady c 23 t ∧ vm.classReady c 19 toy ∧ vm.fieldReady c 15 c g0 ∧ g0.isStatic = false ∧ g0.slot = 0 ∧ k.instanceTypes = #[.long] ∧ k.kind = .ordinary := by
  obtain ⟨dk', k, ok, tk, file, cf, object, iface, toy, lay, methods, target, found, hd', hk, hfile, hcf, hobj, -, hok, hlay, hms, ht, htk, hg, -, hrec, -, -, -, hitf, hpool, hmeth, hfields, hty, hres, -⟩ := isMade_spec h
  cases hd.symm.trans hd'
  rw [hname, own_file] at hcf
  cases hcf
  have hok0 : ok.instanceTypes = #[] := Array.eq_empty_of_size_eq_zero (hO object ok hobj hok)
  rw [hO object ok hobj hok, own_laidIs] at hlay
  cases hlay
  obtain ⟨b, hb, hsame⟩ := hmeth 1 own_fw (own_second methods hms)
  obtain ⟨hn1, hn2, hsig, hfl, x, y, hfc, hbc, -, hml, hco, -⟩ := sameMethod_spec hsame
  have fc := own_fcode
  have ff := own_fflags
  simp only [Prod.mk.injEq] at ff
  obtain ⟨g0, hg0, hp0⟩ := Option.map_eq_some_iff.mp own_eF.2.2.2
  simp only [Prod.mk.injEq] at hp0
  rw [hfc] at fc
  simp only [Option.map_some, Option.some.injEq, Prod.mk.injEq] at fc
  refine ⟨k, tk, file, b, y, toy, target, g0, hk, by rw [hrec.1, hname], hfile, hpool.2.1, by simp [Vm.method?, hk, hb], hbc, ?_, by rw [hml]; exact fc.2, ?_, by rw [hfl]; exact ff.1, by rw [hsig]; exact ff.2.2, ht, htk, hg,
    ⟨k, hk, hres 23 _ (resolvedOf_method own_eM.1 own_eM.2.1 ht htk own_eM.2.2 hg)⟩, ⟨k, hk, hres 19 _ (resolvedOf_class own_eC.1 own_eC.2.2 own_eC.2.1 ht)⟩,
    ⟨k, 0, k, hk, hres 15 _ (resolvedOf_field own_eF.1 own_eF.2.1 own_eF.2.2.1), hk, hfields 0 _ hg0⟩, hp0.1, hp0.2, by rw [hty.1, hok0, own_ltypes]; rfl, hrec.2.1⟩
  · rw [hco]; exact ByteArray.ext fc.1
  · simp [Method.locks, Method.isSynchronized, hfl, ff.1, hasFlag, Acc.synchronized]
/-- the site's class in the start's tables -/
def LamK (Z : State) (cK : ClassId) : Prop := ∃ one, Z.lambdaAt? fpN 2 23 own_sh = some (cK, one)
/-- the object at b is one of the site's, holding j -/
def Lob (Z : State) (h : Heap) (b : Addr) (j : Int64) : Prop := ∃ cK, LamK Z cK ∧ h[b]? = some { cls := cK, slots := #[.long j], vm := .none }
theorem Lob.lt {b : Addr} {j : Int64} (L : Lob Z h b j) : b < h.size := by obtain ⟨cK, -, q⟩ := L; exact (Array.getElem?_eq_some_iff.mp q).1
theorem own_obj0 (wO : (Jvm.Cond.instantiable "java/lang/Object" 0).before a0 Z = true) (hH : Z.WarmedH s.vm) : ∀ o ok, s.vm.findClass "java/lang/Object" = some o → s.vm.classes[o]? = some ok → ok.instanceTypes.size = 0 := by
  intro o ok ho hok
  obtain ⟨cO, kO, hfO, hkO, -, -, -, hsz⟩ := Cond.instantiable_spec (mvT (args := #[]) hH.wide wO)
  cases ho.symm.trans hfO
  cases hok.symm.trans hkO
  exact hsz
theorem g_lambda (X : Stand p l e R s m args below meth c T locs cells slots) (hx : p.tables.exec = Jvm.exec) (hH : Z.WarmedH s.vm) (hnamed : s.methodNamed? fpN = some m) (w : (Jvm.Cond.lambdaSite fpN 2 23 own_sh).before a0 Z = true) (wO : (Jvm.Cond.instantiable "java/lang/Object" 0).before a0 Z = true) (eT : T.heap = h) (hsz : Ls.size = c.maxLocals) (hd : decode c.code 2 = .ok (.invokedynamic 23, 5)) {j : Int64}
    (hw : (St.map fun v => v.category).sum + 2 + 3072 ≤ R.locals) (hc : cells + 1 ≤ R.cells) (hl : slots + 1 ≤ R.slots)
    (G : ∀ T' h' b, b = h.size → Stand p l e R s m args below meth c T' locs (cells + 1) (slots + 1) → T'.heap = h' → Ext h h' → Lob Z h' b j → Go p e below W (T'.setTop (mkF m 7 Ls (.ref b :: St)))) : Go p e below W (T.setTop (mkF m 2 Ls (.long j :: St))) := by
  obtain ⟨cK, one, hat⟩ := Cond.lambdaSite_spec w
  obtain ⟨m', kS, cfS, i0, p0, lk, hm', hkS, hcfS, hshape, -, hfind, hmade, hcan, hlk⟩ := State.lambdaAt?_spec hat
  obtain ⟨rfl, rfl, -⟩ : lk = .makes cK ∧ one = none ∧ own_sh.captured ≠ [] := by
    rcases hlk with ⟨a, cell, -, -, h, -⟩ | h
    · exact absurd h (by decide)
    · exact h
  have hm2 : s.methodNamed? fpN = some m' := by
    have := State.methodNamed?_setVm (s := Z) hH.alike fpN
    rw [hm'] at this
    exact this
  cases hnamed.symm.trans hm2
  obtain ⟨kS', hkS', heS⟩ := hH.alike.2.2 _ _ hkS
  obtain ⟨bsm, nt, desc, site, hc', hnt, hsite, hpar⟩ := Lambda.shapeOf?_site hshape
  obtain ⟨kS2, hkS2, hnameS⟩ := className_of_methodNamed hnamed
  cases hkS'.symm.trans hkS2
  have hmade' := isMade_warmer hH hmade
  obtain ⟨kK, tk, file, methk, ck, toy, t, g0, hkK, -, -, -, -, -, -, -, -, -, -, -, -, -, -, -, -, -, -, htyK, hkindK⟩ := own_made hkS' hnameS hmade' (own_obj0 wO hH)
  have hslotsE : ((kK.instanceTypes.toList.zip [(.long j : Value)]).map fun (t, v) => narrow t v) = [.long j] := by
    rw [htyK]; rfl
  obtain ⟨X₁, st1⟩ := X.lambdaMakes hx (g := mkF m 2 Ls (.long j :: St)) rfl hsz hd (vals := [.long j]) (rest := St)
    hkS' (by rw [heS]; exact hfind) (by rw [heS]; exact hcfS) hc' hnt (parseLong_of_parse hsite) (by rw [hpar]; rfl) rfl hkK
    (by rw [X.admits.platform]; show 2 * 0 + (2 + (St.map fun v => v.category).sum) + 3072 ≤ R.locals; omega) hc (by rw [hslotsE]; exact hl)
    (fun i v hv => by
      rw [hslotsE] at hv
      match i, hv with
      | 0, hv => simp at hv; subst hv; simp [State.fitsSlot, State.slotType?, hkK, hkindK, htyK, fits]
      | k + 1, hv => simp at hv)
  rw [hslotsE] at X₁ st1
  subst eT
  have hext : Ext T.heap (T.pushCell { cls := cK, slots := [Value.long j].toArray, vm := .none }).heap := ext_of fun a ha => State.heap_pushCell_of_lt _ _ ha
  exact (G _ _ _ rfl X₁ rfl hext ⟨cK, ⟨none, hat⟩, State.heap_pushCell_size _ _⟩).on st1
/-- 'aload_0; getfield; aload_1; iload_2; invokestatic; ireturn' of a made class: one value captured, a reference and an int handed in, a boolean back -/
theorem own_cap (hexec : p.tables.exec = Jvm.exec) {Rm R' : Room} {below' : List Frame} {s' : State} {sargs' : Array Value} {cK mi fi1 sl1 : Nat} {y : MethodName} {methk : Method} {ck : Code} {len Wn : Nat}
    (hd0 : decode ck.code 0 = .ok (.aload_n 0, 1)) (hd1 : decode ck.code 1 = .ok (.getfield fi1, 3)) (hd4 : decode ck.code 4 = .ok (.aload_n 1, 1)) (hd5 : decode ck.code 5 = .ok (.iload_n 2, 1)) (hd6 : decode ck.code 6 = .ok (.invokestatic mi, 3)) (hd9 : decode ck.code 9 = .ok (.ireturn, 1))
    (c1 : Value) (f ar : Addr) (ix r0 : Int32) (hr0 : r0 = 0 ∨ r0 = 1) (hF : ∀ U : State, s'.WarmedH U.vm → Base U cK methk ck 3 (some .boolean) ∧ (∃ fld : Field, U.vm.fieldReady cK fi1 cK fld ∧ fld.isStatic = false ∧ fld.slot = sl1) ∧ StaticAt e U cK mi y 3)
    (hT : ∀ (U : State) (g : JFrame) (a : Array Value), s'.WarmedH U.vm → Back l R' p e (.java g :: below') (U.calling g ⟨cK, 1⟩ a) a y 3 0 (fun A a => a = #[c1, .ref ar, .int ix] ∧ A.U.heap = h ∧ A.cells + 0 ≤ R'.cells ∧ A.slots + 0 ≤ R'.slots) (fun A _ v B => ∃ L, Pur (some (.int r0)) h v B.U.heap L ∧ B.locs = A.locs ++ L ∧ B.cells = A.cells + 0 ∧ B.slots = A.slots + 0))
    (hfr : R'.frames + 1 ≤ Rm.frames) (hlo : Wn + (3 + 11) + R'.locals ≤ Rm.locals) (hRc : R'.cells = 0) (hRs : R'.slots = 0) :
    BackW l Rm p e below' s' sargs' (fun _ m' => m' = ⟨cK, 1⟩) len Wn
      (fun A a => ∃ cellF : Cell, a = #[.ref f, .ref ar, .int ix] ∧ A.U.heap = h ∧ h[f]? = some cellF ∧ cellF.vm ≠ .unknown ∧ cellF.slots[sl1]? = some c1 ∧ A.cells ≤ Rm.cells ∧ A.slots ≤ Rm.slots)
      (fun A a v B => v = some (.int r0) ∧ B.U.heap = h ∧ B.locs = A.locs ∧ B.cells = A.cells ∧ B.slots = A.slots) := by
  intro m meth c A gj ig mk a X hg hsize hdg hW hwho hpre
  obtain ⟨U, L, cc, nn⟩ := A
  dsimp only [Pt.U, Pt.locs, Pt.cells, Pt.slots] at X hpre hwho ⊢
  obtain ⟨cellF, rfl, hUh, hcell, hkn, hs1, hcl, hsl⟩ := hpre
  subst hwho
  obtain ⟨hB, ⟨fld1, hfa1, hfb1, hfc1⟩, hS⟩ := hF U X.warmed
  have hent : entryFrame ⟨cK, 1⟩ #[.ref f, .ref ar, .int ix] 3 = mkF ⟨cK, 1⟩ 0 #[.val (.ref f), .val (.ref ar), .val (.int ix)] [] := rfl
  obtain ⟨v, T', U₁, L₁, c₁, n₁, X', ⟨rfl, rfl, rfl, rfl, hh1⟩, hh, hv, -, steps⟩ := X.through hg hsize hdg #[.ref f, .ref ar, .int ix] (R' := R') hB.meth hB.code hB.locks hB.plain hfr (by rw [hB.maxL]; omega) (by rw [hRc]; exact hcl) (by rw [hRs]; exact hsl)
    (Φ := fun v U₁ L₁ c₁ n₁ => v = some (.int r0) ∧ L₁ = [] ∧ c₁ = 0 ∧ n₁ = 0 ∧ U₁.heap = h)
    (fun U₀ hU₀ Y₀ => by
      have hvm : U₀.vm = U.vm := by rw [hU₀]; rfl
      have hheap : U₀.heap = h := by rw [hU₀]; exact hUh
      rw [hB.maxL, hent]
      have k1 : Steps p.tables e (.java gj :: below') (U₀.setTop (mkF ⟨cK, 1⟩ 0 #[.val (.ref f), .val (.ref ar), .val (.int ix)] [])) (U₀.setTop (mkF ⟨cK, 1⟩ 1 #[.val (.ref f), .val (.ref ar), .val (.int ix)] [.ref f])) :=
        XS.aloadN Y₀.here hexec rfl hd0 rfl rfl (Steps.refl _)
      have k2 := Y₀.getfieldR hexec (g := mkF ⟨cK, 1⟩ 1 #[.val (.ref f), .val (.ref ar), .val (.int ix)] [.ref f]) rfl (index := fi1) (cF := cK) (a := f) (field := fld1) (cell := cellF) (v := c1) (rest := []) (by rw [hvm]; exact hfa1) hfb1 rfl (by rw [hheap]; exact hcell) hkn (by rw [hfc1]; exact hs1) hd1 k1
      have k3 : Steps p.tables e (.java gj :: below') (U₀.setTop (mkF ⟨cK, 1⟩ 4 #[.val (.ref f), .val (.ref ar), .val (.int ix)] [c1])) (U₀.setTop (mkF ⟨cK, 1⟩ 6 #[.val (.ref f), .val (.ref ar), .val (.int ix)] [.int ix, .ref ar, c1])) :=
        XS.aloadN Y₀.here hexec rfl hd4 rfl rfl (XS.iloadN Y₀.here hexec rfl hd5 rfl (Steps.refl _))
      obtain ⟨t, kt, metht, q1, q2, q3, q4, q5, q6, q7, q8, q9⟩ := hS.of hvm
      obtain ⟨v, ⟨U₁, L₁, c₁, n₁⟩, Y₁, ⟨L2, ⟨rfl, rfl, hpost⟩, l1, y1, z1⟩, kE⟩ := Y₀.staticR hexec (g := mkF ⟨cK, 1⟩ 6 #[.val (.ref f), .val (.ref ar), .val (.int ix)] [.int ix, .ref ar, c1]) rfl (by rw [hB.maxL]; rfl) (index := mi) (y := y) (argsL := [c1, .ref ar, .int ix]) (rest := []) q1 q2 q3 q4 q5 q6 q7 q8.symm rfl q9
        (hT U gj _ X.warmed) (by show 2 * 0 + 0 ≤ 0; decide) ⟨rfl, hheap, Nat.zero_le _, Nat.zero_le _⟩ hd6 (k2.trans k3)
      dsimp only [Pt.U, Pt.locs, Pt.cells, Pt.slots] at Y₁ kE l1 y1 z1 hpost
      subst l1 y1 z1
      exact ⟨some (.int r0), U₁, _, _, _, Y₁, (fun h => by rw [hB.ret] at h; cases h), ⟨rfl, rfl, rfl, rfl, hpost⟩, fun fs hleave => kE.trans (retOut Y₁ hexec hB.ret (by rcases hr0 with rfl | rfl <;> rfl) (Or.inl ⟨rfl, Or.inr (Or.inl rfl), r0, rfl⟩) hd9 hleave)⟩)
  exact ⟨some (.int r0), ⟨T', L ++ [], cc + 0, nn + 0⟩, X', ⟨rfl, hh.trans hh1, by simp, rfl, rfl⟩, steps⟩
theorem g_test {own : String} {index count : Nat} {bytes : ByteArray} (X : Stand p l e R s m args below meth c T locs cells slots) (hx : p.tables.exec = Jvm.exec) (hH : Z.WarmedH s.vm) (hown : s.vm.findClass own = some m.cls) (w1 : (Jvm.Cond.methodLink own index teN).before a0 Z = true) (w2 : (Jvm.Cond.declares teN).before a0 Z = true) (w3 : (Jvm.Cond.interfaceMethod etN etN "test" "([JI)Z").before a0 Z = true)
    (w : (Jvm.Cond.lambdaSite fpN 2 23 own_sh).before a0 Z = true) (wO : (Jvm.Cond.instantiable "java/lang/Object" 0).before a0 Z = true) (w4 : (Jvm.Cond.code laN bytes 4 (some .boolean)).before a0 Z = true) (w5 : (Jvm.Cond.static laN).before a0 Z = true) (w6 : (Jvm.Cond.initialized siN).before a0 Z = true)
    (eT : T.heap = h) {b ar : Addr} {j : Int64} {ix r0 : Int32} (L : Lob Z h b j) (hr0 : r0 = 0 ∨ r0 = 1) (hM : Con l Z h laN bytes 4 (some .boolean) ({ frames := 0, cells := 0, slots := 0, locals := 0 } : Room) #[.long j, .ref ar, .int ix] (Pur (some (.int r0)) h)) (hsz : Ls.size = c.maxLocals)
    (hf : 2 ≤ R.frames) (hl : (St.map fun v => v.category).sum + 29 ≤ R.locals) (hc : cells ≤ R.cells) (hs : slots ≤ R.slots) (hd : decode c.code pc = .ok (.invokeinterface index count, 5)) (hq : pc + 5 = q)
    (G : ∀ T', Stand p l e R s m args below meth c T' locs cells slots → T'.heap = h → Go p e below W (T'.setTop (mkF m q Ls (.int r0 :: St)))) : Go p e below W (T.setTop (mkF m pc Ls (.int ix :: .ref ar :: .ref b :: St))) := by
  subst hq
  have hZ := hH.wide
  obtain ⟨cK, ⟨one, hat⟩, hb⟩ := L
  obtain ⟨m', kS, cfS, i0, p0, lk, hm', hkS, hcfS, hshape, -, hfind, hmade, hcan, hlk⟩ := State.lambdaAt?_spec hat
  -- at any tables warmer than the start's
  have at' : ∀ U : State, Z.WarmedH U.vm → ∃ (k tk : Class) (file : ClassFile) (methk : Method) (ck : Code) (toy : ClassId) (t : MethodId) (g0 : Field),
      U.vm.classes[cK]? = some k ∧ k.name = siN ++ "$$Lambda" ∧ k.cf = some file ∧ file.constantPool = own_D.constantPool ∧
      U.vm.method? ⟨cK, 1⟩ = some methk ∧ methk.code = some ck ∧ ck.code = own_fwd ∧ ck.maxLocals = 3 ∧ methk.locks = false ∧ methk.accessFlags = 0x0001 ∧ methk.sig.returnType = some .boolean ∧
      U.vm.findClass siN = some toy ∧ U.vm.classes[toy]? = some tk ∧ ((methodIn toy "lambda$floorPosition$0" "(J[JI)Z" tk.isInterface none).ask { classPath := fun _ => none } U.vm).1 = .ok t ∧
      U.vm.methodReady cK 23 t ∧ U.vm.classReady cK 19 toy ∧ U.vm.fieldReady cK 15 cK g0 ∧ g0.isStatic = false ∧ g0.slot = 0 ∧ k.instanceTypes = #[.long] ∧ k.kind = .ordinary := fun U hU => by
    obtain ⟨kU, hkU, heU⟩ := hU.alike.2.2 _ _ hkS
    obtain ⟨kS2, hkS2, hnameS⟩ := className_of_methodNamed hm'
    cases hkS.symm.trans hkS2
    exact own_made hkU (by rw [heU]; exact hnameS) (isMade_warmer hU hmade) (own_obj0 wO hU)
  have hcan' : s.lambdaCallable own_sh cK = true := by
    have hA := hH.alike
    simp only [State.lambdaCallable, hA.findClass, hA.assignable, hA.superclasses, hA.declaredIn] at hcan ⊢
    exact hcan
  obtain ⟨kK, tk, file, methk, ck, toy, t, g0, hkK, hkn, hfile, hpool, hmk, hck, hbytes, hml, hlk', hfl, hretk, -⟩ := at' s hH
  have hFn : FnX teN cK ⟨cK, 1⟩ s := FnX.of_site (args := #[]) (isMade_warmer hH hmade) hcan' rfl rfl (by decide +kernel) (mvT hZ w3) hkK hmk hfl
  have hK : BackW l R p e below s args (fun _ m' => m' = ⟨cK, 1⟩) 5 ((St.map fun v => v.category).sum) _ _ := own_cap (l := l) (p := p) (e := e) (h := h) hx (Rm := R) (R' := ({ frames := 1, cells := 0, slots := 0, locals := 15 } : Room)) (below' := below) (s' := s) (sargs' := args) (cK := cK) (mi := 23) (fi1 := 15) (sl1 := 0) (y := laN) (methk := methk) (ck := ck)
    (by rw [hbytes]; exact own_f0) (by rw [hbytes]; exact own_f1) (by rw [hbytes]; exact own_f4) (by rw [hbytes]; exact own_f5) (by rw [hbytes]; exact own_f6) (by rw [hbytes]; exact own_f9) (.long j) b ar ix r0 hr0
    (fun U hW => by
      have hU : Z.WarmedH U.vm := State.WarmedH.trans hH hW
      obtain ⟨kU, tkU, fileU, methU, ckU, toyU, tU, gU, hkU, hknU, hfileU, hpoolU, hmkU, -, -, -, -, -, -, htoyU, htkU, hlookU, hreadyU, hclsU, hfU, hfsU, hf0U, -, -⟩ := at' U hU
      exact ⟨⟨by rw [hW.alike.method?]; exact hmk, hck, hlk', State.plainMethod.of_name (fun k' hk' => by cases hkU.symm.trans hk'; rw [hknU]; decide +kernel), hml, hretk⟩, ⟨gU, hfU, hfsU, hf0U⟩,
        StaticAt.of_made (y := laN) (ci := 19) (nt := 22) hkU hfileU (by rw [hpoolU]; exact own_eM.1) (by rw [hpoolU]; exact own_eM.2.2) hreadyU hclsU htoyU htkU hlookU (by decide) (mvT (args := #[]) hU.wide w4) (mvT (args := #[]) hU.wide w5) (mvT (args := #[]) hU.wide w6) (sig := ⟨[.long, .array .long, .int], some .boolean⟩) (by decide +kernel) rfl⟩)
    (fun U g a hW => backOf (s := U.calling g ⟨cK, 1⟩ a) (hM []) (State.WarmedH.trans hH hW : Z.WarmedH (U.calling g ⟨cK, 1⟩ a).vm).wide w4 w6 (by decide) (by decide))
    (by show 1 + 1 ≤ R.frames; omega) (by show _ + (3 + 11) + 15 ≤ R.locals; omega) rfl rfl
  obtain ⟨v, vm₁, ⟨T', L', k', n'⟩, -, X', ⟨rfl, h1, l1, y1, z1⟩, st⟩ := X.fnAt hx (own := own) (index := index) (count := count) (xi := teN) hown (fun d hd' => by
      simp only [fnW, List.mem_cons, List.not_mem_nil, or_false] at hd'
      rcases hd' with rfl | rfl | rfl
      · exact mvT hZ w1
      · exact mvT hZ w2
      · exact mvT hZ w3) (by decide) hFn hK (fun _ _ => rfl) (b := b) ⟨_, by rw [eT]; exact hb, rfl, rfl⟩ (g := mkF m pc Ls (.int ix :: .ref ar :: .ref b :: St)) rfl hsz (Steps.refl _) (argsL := [.ref ar, .int ix]) (rest := St)
      (lenOf (by decide +kernel : parseMethodDescriptor "([JI)Z" = some ⟨[.array .long, .int], some .boolean⟩) rfl) rfl (by simp) hd (fun vm₁ _ => ⟨_, rfl, eT, hb, by simp, rfl, hc, hs⟩)
  dsimp only [Pt.U, Pt.locs, Pt.cells, Pt.slots] at X' h1 l1 y1 z1 st
  subst l1 y1 z1
  exact (G T' X' h1).on fun t k => st.trans k
end OwnLam
def own_minL (x y : Int64) : Int64 := if y < x then y else x
def own_maxL (x y : Int64) : Int64 := if x < y then y else x
def own_min (x y : Int32) : Int32 := if y < x then y else x
def own_entry (o q : Int32) : Int64 := (o.toInt64 <<< ((32 : Int32) &&& 0x3f).toInt64) ||| q.toInt64
def own_exp (j k p0 p1 p2 : Int32) : Int32 := if own_min j (k - (1 : Int32)) < 0 then 0 else if own_min j (k - (1 : Int32)) = 0 then p0 else if own_min j (k - (1 : Int32)) = 1 then p1 else p2
def own_off (x : Int64) : Int64 := (x.toUInt64 >>> ((32 : Int32) &&& 0x3f).toInt64.toUInt64).toInt64
theorem own_entry_int (o q : Int32) (ho : o = 0 ∨ o = 1 ∨ o = 2) (hq : ¬ q < 0) : (own_entry o q).toInt = o.toInt * 4294967296 + q.toInt := by
  have h1 := c_lshl o.toInt64 (32 : Int32) 32 (by decide)
  have hq0 : 0 ≤ q.toInt := by rw [Int32.lt_iff_toInt_lt] at hq; have : (0 : Int32).toInt = 0 := rfl; omega
  have hq1 := rng32 q
  have ho' : o.toInt = 0 ∨ o.toInt = 1 ∨ o.toInt = 2 := by rcases ho with rfl | rfl | rfl <;> simp
  rw [c_i2l] at h1
  have h2 := rng64 (o.toInt64 <<< ((32 : Int32) &&& 0x3f).toInt64)
  have h3 : (o.toInt64 <<< ((32 : Int32) &&& 0x3f).toInt64).toInt = o.toInt * 4294967296 := by
    have : ((2 ^ 32 : Nat) : Int) = 4294967296 := by decide
    rw [this] at h1
    omega
  have h4 := c_orL (o.toInt64 <<< ((32 : Int32) &&& 0x3f).toInt64) q.toInt64 32 (by decide) 4294967296 (by decide) (by rw [h3]; omega) (by rw [c_i2l]; exact hq0) (by rw [c_i2l]; omega)
  rw [h3, c_i2l] at h4
  have h5 := rng64 ((o.toInt64 <<< ((32 : Int32) &&& 0x3f).toInt64) ||| q.toInt64)
  show ((o.toInt64 <<< ((32 : Int32) &&& 0x3f).toInt64) ||| q.toInt64).toInt = _
  omega
theorem own_entry_pos (o q : Int32) (ho : o = 0 ∨ o = 1 ∨ o = 2) (hq : ¬ q < 0) : (own_entry o q).toInt32 = q := by
  have h1 := c_l2i (own_entry o q)
  rw [own_entry_int o q ho hq] at h1
  have h2 := rng32 (own_entry o q).toInt32
  have h3 := rng32 q
  refine Int32.toInt_inj.mp ?_
  omega
theorem own_entry_off (o q : Int32) (ho : o = 0 ∨ o = 1 ∨ o = 2) (hq : ¬ q < 0) : own_off (own_entry o q) = o.toInt64 := by
  have h1 := c_lushr (own_entry o q) (32 : Int32) 32 (by decide) (by decide)
  rw [own_entry_int o q ho hq] at h1
  have hq0 : 0 ≤ q.toInt := by rw [Int32.lt_iff_toInt_lt] at hq; have : (0 : Int32).toInt = 0 := rfl; omega
  have hq1 := rng32 q
  have ho' : o.toInt = 0 ∨ o.toInt = 1 ∨ o.toInt = 2 := by rcases ho with rfl | rfl | rfl <;> simp
  refine Int64.toInt_inj.mp ?_
  rw [c_i2l]
  refine Eq.trans h1 ?_
  have : ((2 ^ 32 : Nat) : Int) = 4294967296 := by decide
  rw [this]
  omega
theorem own_maskpos (a : Int32) : 0 ≤ (a &&& (2147483647 : Int32)).toInt64.toInt ∧ (a &&& (2147483647 : Int32)).toInt64.toInt ≤ 2147483647 := by
  rw [c_i2l]; exact c_and a (2147483647 : Int32) (by decide)
theorem own_sorted (x y z : Int64) (hx : 0 ≤ x.toInt ∧ x.toInt ≤ 2147483647) (hy : 0 ≤ y.toInt ∧ y.toInt ≤ 2147483647) (hz : 0 ≤ z.toInt ∧ z.toInt ≤ 2147483647) :
    ¬ (own_minL (own_minL x y) z).toInt32 < 0 ∧ ¬ (((((x + y) + z) - own_minL (own_minL x y) z) - own_maxL (own_maxL x y) z).toInt32) < (own_minL (own_minL x y) z).toInt32 ∧ ¬ (own_maxL (own_maxL x y) z).toInt32 < ((((x + y) + z) - own_minL (own_minL x y) z) - own_maxL (own_maxL x y) z).toInt32 := by
  have e1 := c_ladd x y
  have r1 := rng64 (x + y)
  have e2 := c_ladd (x + y) z
  have r2 := rng64 (x + y + z)
  have e3 := c_lsub (x + y + z) (own_minL (own_minL x y) z)
  have r3 := rng64 (x + y + z - own_minL (own_minL x y) z)
  have e4 := c_lsub (x + y + z - own_minL (own_minL x y) z) (own_maxL (own_maxL x y) z)
  have r4 := rng64 (x + y + z - own_minL (own_minL x y) z - own_maxL (own_maxL x y) z)
  have e5 := c_l2i (own_minL (own_minL x y) z)
  have r5 := rng32 (own_minL (own_minL x y) z).toInt32
  have e6 := c_l2i (own_maxL (own_maxL x y) z)
  have r6 := rng32 (own_maxL (own_maxL x y) z).toInt32
  have e7 := c_l2i (x + y + z - own_minL (own_minL x y) z - own_maxL (own_maxL x y) z)
  have r7 := rng32 (x + y + z - own_minL (own_minL x y) z - own_maxL (own_maxL x y) z).toInt32
  have z0 : (0 : Int32).toInt = 0 := rfl
  have m1 : (own_minL x y).toInt = if y.toInt < x.toInt then y.toInt else x.toInt := by unfold own_minL; simp only [Int64.lt_iff_toInt_lt]; split <;> rfl
  have m2 : (own_minL (own_minL x y) z).toInt = if z.toInt < (own_minL x y).toInt then z.toInt else (own_minL x y).toInt := by rw [own_minL]; simp only [Int64.lt_iff_toInt_lt]; split <;> rfl
  have m3 : (own_maxL x y).toInt = if x.toInt < y.toInt then y.toInt else x.toInt := by unfold own_maxL; simp only [Int64.lt_iff_toInt_lt]; split <;> rfl
  have m4 : (own_maxL (own_maxL x y) z).toInt = if (own_maxL x y).toInt < z.toInt then z.toInt else (own_maxL x y).toInt := by rw [own_maxL]; simp only [Int64.lt_iff_toInt_lt]; split <;> rfl
  simp only [Int32.lt_iff_toInt_lt, z0]
  generalize (own_minL (own_minL x y) z).toInt32.toInt = A at *
  generalize (own_maxL (own_maxL x y) z).toInt32.toInt = B at *
  generalize (x + y + z - own_minL (own_minL x y) z - own_maxL (own_maxL x y) z).toInt32.toInt = C at *
  generalize (x + y + z - own_minL (own_minL x y) z - own_maxL (own_maxL x y) z).toInt = D at *
  generalize (x + y + z - own_minL (own_minL x y) z).toInt = E at *
  generalize (x + y + z).toInt = F at *
  generalize (x + y).toInt = G at *
  generalize (own_minL (own_minL x y) z).toInt = H at *
  generalize (own_maxL (own_maxL x y) z).toInt = I at *
  generalize (own_minL x y).toInt = J at *
  generalize (own_maxL x y).toInt = K at *
  have bJ : 0 ≤ J ∧ J ≤ 2147483647 := by rw [m1]; split <;> omega
  have bH : 0 ≤ H ∧ H ≤ 2147483647 := by rw [m2]; split <;> omega
  have bK : 0 ≤ K ∧ K ≤ 2147483647 := by rw [m3]; split <;> omega
  have bI : 0 ≤ I ∧ I ≤ 2147483647 := by rw [m4]; split <;> omega
  have hA : A = H := by clear e1 e2 e3 e4 e6 e7 m1 m2 m3 m4; omega
  have hB : B = I := by clear e1 e2 e3 e4 e5 e7 m1 m2 m3 m4; omega
  have hG : G = x.toInt + y.toInt := by clear e2 e3 e4 e5 e6 e7 m1 m2 m3 m4; omega
  have hF : F = x.toInt + y.toInt + z.toInt := by clear e1 e3 e4 e5 e6 e7 m1 m2 m3 m4; omega
  have hE : E = x.toInt + y.toInt + z.toInt - H := by clear e1 e2 e4 e5 e6 e7 m1 m2 m3 m4; omega
  have hD : D = x.toInt + y.toInt + z.toInt - H - I := by clear e1 e2 e3 e5 e6 e7 m1 m2 m3 m4; omega
  have hM : H ≤ D ∧ D ≤ I := by
    clear e1 e2 e3 e4 e5 e6 e7
    split at m1 <;> split at m2 <;> split at m3 <;> split at m4 <;> omega
  have hC : C = D := by clear e1 e2 e3 e4 e5 e6 m1 m2 m3 m4; omega
  clear e1 e2 e3 e4 e5 e6 e7 m1 m2 m3 m4
  omega
theorem own_and3 (n : Int32) : (n &&& (3 : Int32)) = 0 ∨ (n &&& (3 : Int32)) = 1 ∨ (n &&& (3 : Int32)) = 2 ∨ (n &&& (3 : Int32)) = 3 := by
  have h := c_and n (3 : Int32) (by decide)
  have e0 : (0 : Int32).toInt = 0 := rfl
  have e1 : (1 : Int32).toInt = 1 := rfl
  have e2 : (2 : Int32).toInt = 2 := rfl
  have e3 : (3 : Int32).toInt = 3 := rfl
  simp only [← Int32.toInt_inj]
  omega
def own_tr0 (t : Int32) : Int32 := 0
def own_tr1 (t : Int32) (p0 : Int32) : Int32 := if p0 < t then 1 else 0
def own_tr2 (t : Int32) (p0 p1 : Int32) : Int32 := if p1 < t then 2 else if p0 < t then 1 else 0
def own_tr3 (t : Int32) (p0 p1 p2 : Int32) : Int32 := if p2 < t then 3 else if p1 < t then 2 else if p0 < t then 1 else 0
theorem own_exp_00 (p0 p1 p2 : Int32) : own_exp (0 : Int32) (0 : Int32) p0 p1 p2 = (0 : Int32) := by
  have h : own_min (0 : Int32) ((0 : Int32) - (1 : Int32)) = (-1 : Int32) := by decide
  rw [own_exp, h]; rfl
theorem own_exp_01 (p0 p1 p2 : Int32) : own_exp (0 : Int32) (1 : Int32) p0 p1 p2 = p0 := by
  have h : own_min (0 : Int32) ((1 : Int32) - (1 : Int32)) = (0 : Int32) := by decide
  rw [own_exp, h]; rfl
theorem own_exp_02 (p0 p1 p2 : Int32) : own_exp (0 : Int32) (2 : Int32) p0 p1 p2 = p0 := by
  have h : own_min (0 : Int32) ((2 : Int32) - (1 : Int32)) = (0 : Int32) := by decide
  rw [own_exp, h]; rfl
theorem own_exp_03 (p0 p1 p2 : Int32) : own_exp (0 : Int32) (3 : Int32) p0 p1 p2 = p0 := by
  have h : own_min (0 : Int32) ((3 : Int32) - (1 : Int32)) = (0 : Int32) := by decide
  rw [own_exp, h]; rfl
theorem own_exp_10 (p0 p1 p2 : Int32) : own_exp (1 : Int32) (0 : Int32) p0 p1 p2 = (0 : Int32) := by
  have h : own_min (1 : Int32) ((0 : Int32) - (1 : Int32)) = (-1 : Int32) := by decide
  rw [own_exp, h]; rfl
theorem own_exp_11 (p0 p1 p2 : Int32) : own_exp (1 : Int32) (1 : Int32) p0 p1 p2 = p0 := by
  have h : own_min (1 : Int32) ((1 : Int32) - (1 : Int32)) = (0 : Int32) := by decide
  rw [own_exp, h]; rfl
theorem own_exp_12 (p0 p1 p2 : Int32) : own_exp (1 : Int32) (2 : Int32) p0 p1 p2 = p1 := by
  have h : own_min (1 : Int32) ((2 : Int32) - (1 : Int32)) = (1 : Int32) := by decide
  rw [own_exp, h]; rfl
theorem own_exp_13 (p0 p1 p2 : Int32) : own_exp (1 : Int32) (3 : Int32) p0 p1 p2 = p1 := by
  have h : own_min (1 : Int32) ((3 : Int32) - (1 : Int32)) = (1 : Int32) := by decide
  rw [own_exp, h]; rfl
theorem own_exp_20 (p0 p1 p2 : Int32) : own_exp (2 : Int32) (0 : Int32) p0 p1 p2 = (0 : Int32) := by
  have h : own_min (2 : Int32) ((0 : Int32) - (1 : Int32)) = (-1 : Int32) := by decide
  rw [own_exp, h]; rfl
theorem own_exp_21 (p0 p1 p2 : Int32) : own_exp (2 : Int32) (1 : Int32) p0 p1 p2 = p0 := by
  have h : own_min (2 : Int32) ((1 : Int32) - (1 : Int32)) = (0 : Int32) := by decide
  rw [own_exp, h]; rfl
theorem own_exp_22 (p0 p1 p2 : Int32) : own_exp (2 : Int32) (2 : Int32) p0 p1 p2 = p1 := by
  have h : own_min (2 : Int32) ((2 : Int32) - (1 : Int32)) = (1 : Int32) := by decide
  rw [own_exp, h]; rfl
theorem own_exp_23 (p0 p1 p2 : Int32) : own_exp (2 : Int32) (3 : Int32) p0 p1 p2 = p2 := by
  have h : own_min (2 : Int32) ((3 : Int32) - (1 : Int32)) = (2 : Int32) := by decide
  rw [own_exp, h]; rfl
theorem own_ltt {x y t : Int32} (h : ¬ y < x) (k : y < t) : x < t := by
  rw [Int32.lt_iff_toInt_lt] at *; omega
theorem own_nn {x y : Int32} (h : ¬ x < 0) (k : ¬ y < x) : ¬ y < 0 := by
  rw [Int32.lt_iff_toInt_lt] at *; omega
theorem pd_0 : parseMethodDescriptor "(II)I" = some ⟨[.int, .int], some .int⟩ := by decide +kernel
theorem pd_1 : parseMethodDescriptor "(Lcom/example/newlyn/newlyn/storage/SegmentIndex$EntryTest;)I" = some ⟨[(.object "com/example/newlyn/newlyn/storage/SegmentIndex$EntryTest")], some .int⟩ := by decide +kernel
theorem pd_2 : parseMethodDescriptor "(JJ)J" = some ⟨[.long, .long], some .long⟩ := by decide +kernel
theorem pd_3 : parseMethodDescriptor "()V" = some ⟨[], none⟩ := by decide +kernel
theorem pd_4 : parseMethodDescriptor "(I)V" = some ⟨[.int], none⟩ := by decide +kernel
theorem pd_5 : parseMethodDescriptor "(J)I" = some ⟨[.long], some .int⟩ := by decide +kernel
theorem pd_6 : parseMethodDescriptor "(IIIII)I" = some ⟨[.int, .int, .int, .int, .int], some .int⟩ := by decide +kernel
theorem pd_7 : parseMethodDescriptor "(IIJ)V" = some ⟨[.int, .int, .long], none⟩ := by decide +kernel
theorem pn_0 : plainName "com/example/newlyn/newlyn/storage/SegmentIndexTruncatePinLaw" = true := by first | (simp [plainName, overriddenIn]; done) | decide +kernel
theorem pn_1 : plainName "com/example/newlyn/newlyn/storage/SegmentIndex" = true := by first | (simp [plainName, overriddenIn]; done) | decide +kernel
theorem d1_0 : decode jdk_29_method_70_code 0 = .ok (.lload_n 0, 1) := by decide +kernel
theorem d1_1 : decode jdk_29_method_70_code 1 = .ok (.lload_n 2, 1) := by decide +kernel
theorem d1_2 : decode jdk_29_method_70_code 2 = .ok (.lcmp, 1) := by decide +kernel
theorem d1_3 : decode jdk_29_method_70_code 3 = .ok (.ifCond .gt 7, 3) := by decide +kernel
theorem d1_6 : decode jdk_29_method_70_code 6 = .ok (.lload_n 0, 1) := by decide +kernel
theorem d1_7 : decode jdk_29_method_70_code 7 = .ok (.goto 4, 3) := by decide +kernel
theorem d1_10 : decode jdk_29_method_70_code 10 = .ok (.lload_n 2, 1) := by decide +kernel
theorem d1_11 : decode jdk_29_method_70_code 11 = .ok (.lreturn, 1) := by decide +kernel
set_option maxRecDepth 65536 in
set_option maxHeartbeats 40000000 in
theorem rmMinL (l : Launch) (Z : State) (a0 : Array Value) (hw : ∀ d ∈ tables_1, d.before a0 Z = true) (x y : Int64) (h0 : Heap) :
    Con l Z h0 (⟨"java/lang/Math", "min", "(JJ)J"⟩ : MethodName) jdk_29_method_70_code 4 (some .long) ({ frames := 0, cells := 0, slots := 0, locals := 0 } : Room) #[(.long x), (.long y)] (Pur (some (.long (own_minL x y))) h0) := by
  refine con_of (Jvm.Free.JP.mathPlain rfl (by decide +kernel)) (Ls := #[.val (.long x), .second, .val (.long y), .second]) (fun m => by first | (simp [entryFrame, mkF, argsToLocals, Value.category]; done) | rfl) ?_
  intro p e s m below meth c s₁ hx hZ hby hml hret hlk hnm hown X0 e0
  refine g_lloadN X0 hx (hb hby d1_0) (v := x) rfl (q := 1) rfl ?_
  refine g_lloadN X0 hx (hb hby d1_1) (v := y) rfl (q := 2) rfl ?_
  refine g_lcmp X0 hx (hb hby d1_2) (z := (lcmpW x y)) rfl (q := 3) rfl ?_
  refine g_if_gt X0 hx (hb hby d1_3) (by decide) (q := 10) (by decide) (q2 := 6) rfl (fun hb3 => ?_) (fun hb3 => ?_)
  · refine g_lloadN X0 hx (hb hby d1_10) (v := y) rfl (q := 11) rfl ?_
    exact g_retJ X0 hx hret hlk (hb hby d1_11) ⟨(by rw [own_minL, if_pos ((lw_gt _ _).mp hb3)]), rfl, e0⟩ (Nat.le_of_ble_eq_true rfl) (Nat.le_of_ble_eq_true rfl)
  · refine g_lloadN X0 hx (hb hby d1_6) (v := x) rfl (q := 7) rfl ?_
    refine g_goto X0 hx (hb hby d1_7) (by decide) (q := 11) (by decide) ?_
    exact g_retJ X0 hx hret hlk (hb hby d1_11) ⟨(by rw [own_minL, if_neg (fun q => hb3 ((lw_gt _ _).mpr q))]), rfl, e0⟩ (Nat.le_of_ble_eq_true rfl) (Nat.le_of_ble_eq_true rfl)
theorem d2_0 : decode jdk_29_method_66_code 0 = .ok (.lload_n 0, 1) := by decide +kernel
theorem d2_1 : decode jdk_29_method_66_code 1 = .ok (.lload_n 2, 1) := by decide +kernel
theorem d2_2 : decode jdk_29_method_66_code 2 = .ok (.lcmp, 1) := by decide +kernel
theorem d2_3 : decode jdk_29_method_66_code 3 = .ok (.ifCond .lt 7, 3) := by decide +kernel
theorem d2_6 : decode jdk_29_method_66_code 6 = .ok (.lload_n 0, 1) := by decide +kernel
theorem d2_7 : decode jdk_29_method_66_code 7 = .ok (.goto 4, 3) := by decide +kernel
theorem d2_10 : decode jdk_29_method_66_code 10 = .ok (.lload_n 2, 1) := by decide +kernel
theorem d2_11 : decode jdk_29_method_66_code 11 = .ok (.lreturn, 1) := by decide +kernel
set_option maxRecDepth 65536 in
set_option maxHeartbeats 40000000 in
theorem rmMaxL (l : Launch) (Z : State) (a0 : Array Value) (hw : ∀ d ∈ tables_1, d.before a0 Z = true) (x y : Int64) (h0 : Heap) :
    Con l Z h0 (⟨"java/lang/Math", "max", "(JJ)J"⟩ : MethodName) jdk_29_method_66_code 4 (some .long) ({ frames := 0, cells := 0, slots := 0, locals := 0 } : Room) #[(.long x), (.long y)] (Pur (some (.long (own_maxL x y))) h0) := by
  refine con_of (Jvm.Free.JP.mathPlain rfl (by decide +kernel)) (Ls := #[.val (.long x), .second, .val (.long y), .second]) (fun m => by first | (simp [entryFrame, mkF, argsToLocals, Value.category]; done) | rfl) ?_
  intro p e s m below meth c s₁ hx hZ hby hml hret hlk hnm hown X0 e0
  refine g_lloadN X0 hx (hb hby d2_0) (v := x) rfl (q := 1) rfl ?_
  refine g_lloadN X0 hx (hb hby d2_1) (v := y) rfl (q := 2) rfl ?_
  refine g_lcmp X0 hx (hb hby d2_2) (z := (lcmpW x y)) rfl (q := 3) rfl ?_
  refine g_if_lt X0 hx (hb hby d2_3) (by decide) (q := 10) (by decide) (q2 := 6) rfl (fun hb3 => ?_) (fun hb3 => ?_)
  · refine g_lloadN X0 hx (hb hby d2_10) (v := y) rfl (q := 11) rfl ?_
    exact g_retJ X0 hx hret hlk (hb hby d2_11) ⟨(by rw [own_maxL, if_pos ((lw_lt _ _).mp hb3)]), rfl, e0⟩ (Nat.le_of_ble_eq_true rfl) (Nat.le_of_ble_eq_true rfl)
  · refine g_lloadN X0 hx (hb hby d2_6) (v := x) rfl (q := 7) rfl ?_
    refine g_goto X0 hx (hb hby d2_7) (by decide) (q := 11) (by decide) ?_
    exact g_retJ X0 hx hret hlk (hb hby d2_11) ⟨(by rw [own_maxL, if_neg (fun q => hb3 ((lw_lt _ _).mpr q))]), rfl, e0⟩ (Nat.le_of_ble_eq_true rfl) (Nat.le_of_ble_eq_true rfl)
theorem d9_0 : decode jdk_29_method_69_code 0 = .ok (.iload_n 0, 1) := by decide +kernel
theorem d9_1 : decode jdk_29_method_69_code 1 = .ok (.iload_n 1, 1) := by decide +kernel
theorem d9_2 : decode jdk_29_method_69_code 2 = .ok (.if_icmp .gt 7, 3) := by decide +kernel
theorem d9_5 : decode jdk_29_method_69_code 5 = .ok (.iload_n 0, 1) := by decide +kernel
theorem d9_6 : decode jdk_29_method_69_code 6 = .ok (.goto 4, 3) := by decide +kernel
theorem d9_9 : decode jdk_29_method_69_code 9 = .ok (.iload_n 1, 1) := by decide +kernel
theorem d9_10 : decode jdk_29_method_69_code 10 = .ok (.ireturn, 1) := by decide +kernel
set_option maxRecDepth 65536 in
set_option maxHeartbeats 40000000 in
theorem rmMinI (l : Launch) (Z : State) (a0 : Array Value) (hw : ∀ d ∈ tables_1, d.before a0 Z = true) (x y : Int32) (r : Int32) (hr : own_min x y = r) (h0 : Heap) :
    Con l Z h0 (⟨"java/lang/Math", "min", "(II)I"⟩ : MethodName) jdk_29_method_69_code 2 (some .int) ({ frames := 0, cells := 0, slots := 0, locals := 0 } : Room) #[(.int x), (.int y)] (Pur (some (.int r)) h0) := by
  refine con_of (Jvm.Free.JP.mathPlain rfl (by decide +kernel)) (Ls := #[.val (.int x), .val (.int y)]) (fun m => by first | (simp [entryFrame, mkF, argsToLocals, Value.category]; done) | rfl) ?_
  intro p e s m below meth c s₁ hx hZ hby hml hret hlk hnm hown X0 e0
  refine g_iloadN X0 hx (hb hby d9_0) (v := x) rfl (q := 1) rfl ?_
  refine g_iloadN X0 hx (hb hby d9_1) (v := y) rfl (q := 2) rfl ?_
  refine g_icmp_gt X0 hx (hb hby d9_2) (by decide) (q := 9) (by decide) (q2 := 5) rfl (fun hb2 => ?_) (fun hb2 => ?_)
  · refine g_iloadN X0 hx (hb hby d9_9) (v := y) rfl (q := 10) rfl ?_
    exact g_retI X0 hx hret hlk (hb hby d9_10) ⟨(by rw [← hr, own_min, if_pos hb2]), rfl, e0⟩ (Nat.le_of_ble_eq_true rfl) (Nat.le_of_ble_eq_true rfl)
  · refine g_iloadN X0 hx (hb hby d9_5) (v := x) rfl (q := 6) rfl ?_
    refine g_goto X0 hx (hb hby d9_6) (by decide) (q := 10) (by decide) ?_
    exact g_retI X0 hx hret hlk (hb hby d9_10) ⟨(by rw [← hr, own_min, if_neg hb2]), rfl, e0⟩ (Nat.le_of_ble_eq_true rfl) (Nat.le_of_ble_eq_true rfl)
theorem d8_0 : decode method_3_code 0 = .ok (.iload_n 0, 1) := by decide +kernel
theorem d8_1 : decode method_3_code 1 = .ok (.iload_n 1, 1) := by decide +kernel
theorem d8_2 : decode method_3_code 2 = .ok (.iconst 1, 1) := by decide +kernel
theorem d8_3 : decode method_3_code 3 = .ok (.isub, 1) := by decide +kernel
theorem d8_4 : decode method_3_code 4 = .ok (.invokestatic 40, 3) := by decide +kernel
theorem d8_7 : decode method_3_code 7 = .ok (.istore 5, 2) := by decide +kernel
theorem d8_9 : decode method_3_code 9 = .ok (.iload 5, 2) := by decide +kernel
theorem d8_11 : decode method_3_code 11 = .ok (.ifCond .ge 5, 3) := by decide +kernel
theorem d8_14 : decode method_3_code 14 = .ok (.iconst 0, 1) := by decide +kernel
theorem d8_15 : decode method_3_code 15 = .ok (.ireturn, 1) := by decide +kernel
theorem d8_16 : decode method_3_code 16 = .ok (.iload 5, 2) := by decide +kernel
theorem d8_18 : decode method_3_code 18 = .ok (.ifCond .ne 5, 3) := by decide +kernel
theorem d8_21 : decode method_3_code 21 = .ok (.iload_n 2, 1) := by decide +kernel
theorem d8_22 : decode method_3_code 22 = .ok (.ireturn, 1) := by decide +kernel
theorem d8_23 : decode method_3_code 23 = .ok (.iload 5, 2) := by decide +kernel
theorem d8_25 : decode method_3_code 25 = .ok (.iconst 1, 1) := by decide +kernel
theorem d8_26 : decode method_3_code 26 = .ok (.if_icmp .ne 5, 3) := by decide +kernel
theorem d8_29 : decode method_3_code 29 = .ok (.iload_n 3, 1) := by decide +kernel
theorem d8_30 : decode method_3_code 30 = .ok (.ireturn, 1) := by decide +kernel
theorem d8_31 : decode method_3_code 31 = .ok (.iload 4, 2) := by decide +kernel
theorem d8_33 : decode method_3_code 33 = .ok (.ireturn, 1) := by decide +kernel
set_option maxRecDepth 65536 in
set_option maxHeartbeats 40000000 in
theorem rmX (l : Launch) (Z : State) (a0 : Array Value) (hw : ∀ d ∈ tables_1, d.before a0 Z = true) (j kk p0 p1 p2 : Int32) (r : Int32) (hr : own_exp j kk p0 p1 p2 = r) (h0 : Heap) :
    Con l Z h0 (⟨"com/example/newlyn/newlyn/storage/SegmentIndexTruncatePinLaw", "expected", "(IIIII)I"⟩ : MethodName) method_3_code 6 (some .int) ({ frames := 1, cells := 0, slots := 0, locals := 13 } : Room) #[(.int j), (.int kk), (.int p0), (.int p1), (.int p2)] (Pur (some (.int r)) h0) := by
  refine con_of (plainFor_of_name pn_0) (Ls := #[.val (.int j), .val (.int kk), .val (.int p0), .val (.int p1), .val (.int p2), .unset]) (fun m => by first | (simp [entryFrame, mkF, argsToLocals, Value.category]; done) | rfl) ?_
  intro p e s m below meth c s₁ hx hZ hby hml hret hlk hnm hown X0 e0
  refine g_iloadN X0 hx (hb hby d8_0) (v := j) rfl (q := 1) rfl ?_
  refine g_iloadN X0 hx (hb hby d8_1) (v := kk) rfl (q := 2) rfl ?_
  refine g_iconst X0 hx (hb hby d8_2) (n := (1 : Int32)) (by decide) (q := 3) rfl ?_
  refine g_isub X0 hx (hb hby d8_3) (z := (kk - (1 : Int32))) rfl (q := 4) rfl ?_
  refine g_callS X0 hx hZ hown (hw _ (List.mem_of_getElem? (i := 44) rfl)) (hw _ (List.mem_of_getElem? (i := 45) rfl)) (hw _ (List.mem_of_getElem? (i := 3) rfl)) (hw _ (List.mem_of_getElem? (i := 46) rfl)) (by decide) e0 (rmMinI l Z a0 hw j (kk - (1 : Int32)) _ rfl h0) (by exact hml.symm) (argsL := [(.int j), (.int (kk - (1 : Int32)))]) (rest := []) rfl rfl pd_0 rfl (Nat.le_of_ble_eq_true rfl) (Nat.le_of_ble_eq_true rfl) (Nat.le_of_ble_eq_true rfl) (Nat.le_of_ble_eq_true rfl) (hb hby d8_4) (q := 7) rfl (g_pure rfl rfl fun T1 X1 e1 => ?_)
  show Go p e below _ (T1.setTop (mkF m 7 #[.val (.int j), .val (.int kk), .val (.int p0), .val (.int p1), .val (.int p2), .unset] [(.int (own_min j (kk - (1 : Int32))))]))
  refine g_istore X1 hx (hb hby d8_7) (L' := #[.val (.int j), .val (.int kk), .val (.int p0), .val (.int p1), .val (.int p2), .val (.int (own_min j (kk - (1 : Int32))))]) rfl (q := 9) rfl ?_
  refine g_iload X1 hx (hb hby d8_9) (v := (own_min j (kk - (1 : Int32)))) rfl (q := 11) rfl ?_
  refine g_if_ge X1 hx (hb hby d8_11) (by decide) (q := 16) (by decide) (q2 := 14) rfl (fun hb11 => ?_) (fun hb11 => ?_)
  · refine g_iload X1 hx (hb hby d8_16) (v := (own_min j (kk - (1 : Int32)))) rfl (q := 18) rfl ?_
    refine g_if_ne X1 hx (hb hby d8_18) (by decide) (q := 23) (by decide) (q2 := 21) rfl (fun hb18 => ?_) (fun hb18 => ?_)
    · refine g_iload X1 hx (hb hby d8_23) (v := (own_min j (kk - (1 : Int32)))) rfl (q := 25) rfl ?_
      refine g_iconst X1 hx (hb hby d8_25) (n := (1 : Int32)) (by decide) (q := 26) rfl ?_
      refine g_icmp_ne X1 hx (hb hby d8_26) (by decide) (q := 31) (by decide) (q2 := 29) rfl (fun hb26 => ?_) (fun hb26 => ?_)
      · refine g_iload X1 hx (hb hby d8_31) (v := p2) rfl (q := 33) rfl ?_
        exact g_retI X1 hx hret hlk (hb hby d8_33) ⟨(by rw [← hr, own_exp, if_neg hb11, if_neg hb18, if_neg hb26]), rfl, e1⟩ (Nat.le_of_ble_eq_true rfl) (Nat.le_of_ble_eq_true rfl)
      · refine g_iloadN X1 hx (hb hby d8_29) (v := p1) rfl (q := 30) rfl ?_
        exact g_retI X1 hx hret hlk (hb hby d8_30) ⟨(by rw [← hr, own_exp, if_neg hb11, if_neg hb18, if_pos hb26]), rfl, e1⟩ (Nat.le_of_ble_eq_true rfl) (Nat.le_of_ble_eq_true rfl)
    · refine g_iloadN X1 hx (hb hby d8_21) (v := p0) rfl (q := 22) rfl ?_
      exact g_retI X1 hx hret hlk (hb hby d8_22) ⟨(by rw [← hr, own_exp, if_neg hb11, if_pos hb18]), rfl, e1⟩ (Nat.le_of_ble_eq_true rfl) (Nat.le_of_ble_eq_true rfl)
  · refine g_iconst X1 hx (hb hby d8_14) (n := (0 : Int32)) (by decide) (q := 15) rfl ?_
    exact g_retI X1 hx hret hlk (hb hby d8_15) ⟨(by rw [← hr, own_exp, if_pos hb11]), rfl, e1⟩ (Nat.le_of_ble_eq_true rfl) (Nat.le_of_ble_eq_true rfl)
theorem d3_0 : decode prog_23_method_1_code 0 = .ok (.aload_n 0, 1) := by decide +kernel
theorem d3_1 : decode prog_23_method_1_code 1 = .ok (.invokespecial 1, 3) := by decide +kernel
theorem d3_4 : decode prog_23_method_1_code 4 = .ok (.aload_n 0, 1) := by decide +kernel
theorem d3_5 : decode prog_23_method_1_code 5 = .ok (.bipush 32, 2) := by decide +kernel
theorem d3_7 : decode prog_23_method_1_code 7 = .ok (.newarray .long, 2) := by decide +kernel
theorem d3_9 : decode prog_23_method_1_code 9 = .ok (.putfield 9, 3) := by decide +kernel
theorem d3_12 : decode prog_23_method_1_code 12 = .ok (.return_, 1) := by decide +kernel
set_option maxRecDepth 65536 in
set_option maxHeartbeats 40000000 in
theorem rmC (l : Launch) (Z : State) (a0 : Array Value) (hw : ∀ d ∈ tables_1, d.before a0 Z = true) (b : Addr) (h0 : Heap) (n0 : Nat) (Z0 : n0 ≤ h0.size) (hge : n0 ≤ b) (E0 : Exa Z h0 b "com/example/newlyn/newlyn/storage/SegmentIndex") (F0 : Fld Z h0 b "com/example/newlyn/newlyn/storage/SegmentIndex" "entries" "[J" .null) (F1 : Fld Z h0 b "com/example/newlyn/newlyn/storage/SegmentIndex" "count" "I" (.int (0 : Int32))) :
    Con l Z h0 (⟨"com/example/newlyn/newlyn/storage/SegmentIndex", "<init>", "()V"⟩ : MethodName) prog_23_method_1_code 1 none ({ frames := 1, cells := 1, slots := 32, locals := 12 } : Room) #[(.ref b)] (fun v h L => v = none ∧ Fr n0 L ∧ Keep h0 h [b] ∧ Exa Z h b "com/example/newlyn/newlyn/storage/SegmentIndex" ∧ ∃ ae, h0.size ≤ ae ∧ Fld Z h b "com/example/newlyn/newlyn/storage/SegmentIndex" "entries" "[J" (.ref ae) ∧ Fld Z h b "com/example/newlyn/newlyn/storage/SegmentIndex" "count" "I" (.int (0 : Int32)) ∧ Af Z h ae .long 32 (fun _ => .long (0 : Int64))) := by
  refine con_of (plainFor_of_name pn_1) (Ls := #[.val (.ref b)]) (fun m => by first | (simp [entryFrame, mkF, argsToLocals, Value.category]; done) | rfl) ?_
  intro p e s m below meth c s₁ hx hZ hby hml hret hlk hnm hown X0 e0
  refine g_aloadN X0 hx (hb hby d3_0) (v := (.ref b)) rfl rfl (q := 1) rfl ?_
  refine g_initO X0 hx hZ hown (hw _ (List.mem_of_getElem? (i := 14) rfl)) (hw _ (List.mem_of_getElem? (i := 15) rfl)) (hw _ (List.mem_of_getElem? (i := 16) rfl)) e0 (by exact hml.symm) (hb hby d3_1) (Nat.le_of_ble_eq_true rfl) (Nat.le_of_ble_eq_true rfl) (q := 4) rfl fun T2 X2 e2 => ?_
  refine g_aloadN X2 hx (hb hby d3_4) (v := (.ref b)) rfl rfl (q := 5) rfl ?_
  refine g_bipush X2 hx (hb hby d3_5) (n := (32 : Int32)) (by decide) (q := 7) rfl ?_
  refine g_newP X2 hx hZ (hw _ (List.mem_of_getElem? (i := 17) rfl)) e2 (hb hby d3_7) (n := (32 : Int32)) (by decide) (cap := 32) (Nat.le_of_ble_eq_true rfl) (by decide) (Nat.le_of_ble_eq_true rfl) (Nat.le_of_ble_eq_true rfl) (q := 9) rfl fun T3 h3 c3 ae g3 X3 e3 E3 A3 => ?_
  have ne_b_ae : b ≠ ae := Nat.ne_of_lt (Nat.lt_of_lt_of_le E0.lt (Nat.le_of_eq g3.symm))
  have ge_ae : n0 ≤ ae := Nat.le_trans Z0 (Nat.le_of_eq g3.symm)
  have sz_ae : h0.size ≤ ae := Nat.le_trans (Keep.refl h0 [b]).1 (Nat.le_of_eq g3.symm)
  have z_3 := Nat.le_trans Z0 E3.1
  have kp_3 := (Keep.refl h0 [b]).ext E3
  have f4 := (E0.ext E3)
  have f5 := (F0.ext E3)
  have f6 := (F1.ext E3)
  have V3 : Af Z h3 ae .long 32 (fun _ => (.long (0 : Int64))) := Af.fresh A3
  refine g_putF X3 hx hZ hown (hw _ (List.mem_of_getElem? (i := 18) rfl)) Via.refl e3 f5 f4 (Or.inl (hw _ (List.mem_of_getElem? (i := 19) rfl))) (hw _ (List.mem_of_getElem? (i := 9) rfl)) (ty := (.array .long)) (by decide) rfl rfl (hb hby d3_9) (q := 12) rfl fun T7 h7 X7 e7 W7 => ?_
  have fw7 := f5.same W7
  have N7 := Fr.snoc X7 (Fr.nil n0) hge
  have z_7 := Nat.le_trans z_3 (Keep.of_wr W7).1
  have kp_7 := kp_3.wr W7 (Or.inl (List.mem_of_getElem? (i := 0) rfl))
  have f8 := (f4.wr W7)
  have f9 := (f6.other W7 (Or.inr (slot_ne (Or.inl (hw _ (List.mem_of_getElem? (i := 26) rfl))) (Or.inl (hw _ (List.mem_of_getElem? (i := 19) rfl))) (by decide) (t := .int) (t' := (.array .long)) (by decide) (by decide))))
  have f10 := (V3.other W7 (Ne.symm ne_b_ae))
  exact g_retV X7 hx hret hlk (hb hby d3_12) ⟨rfl, N7, by rw [e7]; exact kp_7, by rw [e7]; exact f8, ae, sz_ae, by rw [e7]; exact fw7, by rw [e7]; exact f9, by rw [e7]; exact f10⟩ (Nat.le_of_ble_eq_true rfl) (Nat.le_of_ble_eq_true rfl)
theorem d10_0 : decode prog_23_method_2_code 0 = .ok (.aload_n 0, 1) := by decide +kernel
theorem d10_1 : decode prog_23_method_2_code 1 = .ok (.getfield 9, 3) := by decide +kernel
theorem d10_4 : decode prog_23_method_2_code 4 = .ok (.astore 5, 2) := by decide +kernel
theorem d10_6 : decode prog_23_method_2_code 6 = .ok (.aload_n 0, 1) := by decide +kernel
theorem d10_7 : decode prog_23_method_2_code 7 = .ok (.getfield 13, 3) := by decide +kernel
theorem d10_10 : decode prog_23_method_2_code 10 = .ok (.iconst 1, 1) := by decide +kernel
theorem d10_11 : decode prog_23_method_2_code 11 = .ok (.iadd, 1) := by decide +kernel
theorem d10_12 : decode prog_23_method_2_code 12 = .ok (.iconst 2, 1) := by decide +kernel
theorem d10_13 : decode prog_23_method_2_code 13 = .ok (.imul, 1) := by decide +kernel
theorem d10_14 : decode prog_23_method_2_code 14 = .ok (.aload 5, 2) := by decide +kernel
theorem d10_16 : decode prog_23_method_2_code 16 = .ok (.arraylength, 1) := by decide +kernel
theorem d10_17 : decode prog_23_method_2_code 17 = .ok (.if_icmp .le 21, 3) := by decide +kernel
theorem d10_38 : decode prog_23_method_2_code 38 = .ok (.aload 5, 2) := by decide +kernel
theorem d10_40 : decode prog_23_method_2_code 40 = .ok (.aload_n 0, 1) := by decide +kernel
theorem d10_41 : decode prog_23_method_2_code 41 = .ok (.getfield 13, 3) := by decide +kernel
theorem d10_44 : decode prog_23_method_2_code 44 = .ok (.iconst 2, 1) := by decide +kernel
theorem d10_45 : decode prog_23_method_2_code 45 = .ok (.imul, 1) := by decide +kernel
theorem d10_46 : decode prog_23_method_2_code 46 = .ok (.iload_n 1, 1) := by decide +kernel
theorem d10_47 : decode prog_23_method_2_code 47 = .ok (.i2l, 1) := by decide +kernel
theorem d10_48 : decode prog_23_method_2_code 48 = .ok (.bipush 32, 2) := by decide +kernel
theorem d10_50 : decode prog_23_method_2_code 50 = .ok (.lshl, 1) := by decide +kernel
theorem d10_51 : decode prog_23_method_2_code 51 = .ok (.iload_n 2, 1) := by decide +kernel
theorem d10_52 : decode prog_23_method_2_code 52 = .ok (.i2l, 1) := by decide +kernel
theorem d10_53 : decode prog_23_method_2_code 53 = .ok (.lor, 1) := by decide +kernel
theorem d10_54 : decode prog_23_method_2_code 54 = .ok (.lastore, 1) := by decide +kernel
theorem d10_55 : decode prog_23_method_2_code 55 = .ok (.aload 5, 2) := by decide +kernel
theorem d10_57 : decode prog_23_method_2_code 57 = .ok (.aload_n 0, 1) := by decide +kernel
theorem d10_58 : decode prog_23_method_2_code 58 = .ok (.getfield 13, 3) := by decide +kernel
theorem d10_61 : decode prog_23_method_2_code 61 = .ok (.iconst 2, 1) := by decide +kernel
theorem d10_62 : decode prog_23_method_2_code 62 = .ok (.imul, 1) := by decide +kernel
theorem d10_63 : decode prog_23_method_2_code 63 = .ok (.iconst 1, 1) := by decide +kernel
theorem d10_64 : decode prog_23_method_2_code 64 = .ok (.iadd, 1) := by decide +kernel
theorem d10_65 : decode prog_23_method_2_code 65 = .ok (.lload_n 3, 1) := by decide +kernel
theorem d10_66 : decode prog_23_method_2_code 66 = .ok (.lastore, 1) := by decide +kernel
theorem d10_67 : decode prog_23_method_2_code 67 = .ok (.aload_n 0, 1) := by decide +kernel
theorem d10_68 : decode prog_23_method_2_code 68 = .ok (.aload_n 0, 1) := by decide +kernel
theorem d10_69 : decode prog_23_method_2_code 69 = .ok (.getfield 13, 3) := by decide +kernel
theorem d10_72 : decode prog_23_method_2_code 72 = .ok (.iconst 1, 1) := by decide +kernel
theorem d10_73 : decode prog_23_method_2_code 73 = .ok (.iadd, 1) := by decide +kernel
theorem d10_74 : decode prog_23_method_2_code 74 = .ok (.putfield 13, 3) := by decide +kernel
theorem d10_77 : decode prog_23_method_2_code 77 = .ok (.return_, 1) := by decide +kernel
set_option maxRecDepth 65536 in
set_option maxHeartbeats 40000000 in
theorem rmA (l : Launch) (Z : State) (a0 : Array Value) (hw : ∀ d ∈ tables_1, d.before a0 Z = true) (b ae : Addr) (o q : Int32) (tm : Int64) (cn cn1 cz z0 z1 : Int32) (hc1 : cn + (1 : Int32) = cn1) (hcz : cn1 * (2 : Int32) = cz) (hz0 : cn * (2 : Int32) = z0) (hz1 : z0 + (1 : Int32) = z1) (hle : ¬ (32 : Int32) < cz) (f : Nat → Value) (h0 : Heap) (n0 : Nat) (h00 : ¬ z0 < 0) (h01 : z0.toNatClampNeg < 32) (h10 : ¬ z1 < 0) (h11 : z1.toNatClampNeg < 32) (hge : n0 ≤ b) (hga : n0 ≤ ae) (nba : b ≠ ae) (E0 : Exa Z h0 b "com/example/newlyn/newlyn/storage/SegmentIndex") (F0 : Fld Z h0 b "com/example/newlyn/newlyn/storage/SegmentIndex" "entries" "[J" (.ref ae)) (F1 : Fld Z h0 b "com/example/newlyn/newlyn/storage/SegmentIndex" "count" "I" (.int cn)) (V0 : Af Z h0 ae .long 32 f) :
    Con l Z h0 (⟨"com/example/newlyn/newlyn/storage/SegmentIndex", "add", "(IIJ)V"⟩ : MethodName) prog_23_method_2_code 6 none ({ frames := 0, cells := 0, slots := 0, locals := 0 } : Room) #[(.ref b), (.int o), (.int q), (.long tm)] (fun v h L => v = none ∧ Fr n0 L ∧ Keep h0 h [b, ae] ∧ Exa Z h b "com/example/newlyn/newlyn/storage/SegmentIndex" ∧ Fld Z h b "com/example/newlyn/newlyn/storage/SegmentIndex" "entries" "[J" (.ref ae) ∧ Fld Z h b "com/example/newlyn/newlyn/storage/SegmentIndex" "count" "I" (.int cn1) ∧ Af Z h ae .long 32 (fun i => if i = z1.toNatClampNeg then .long tm else if i = z0.toNatClampNeg then .long (own_entry o q) else f i)) := by
  refine con_of (plainFor_of_name pn_1) (Ls := #[.val (.ref b), .val (.int o), .val (.int q), .val (.long tm), .second, .unset]) (fun m => by first | (simp [entryFrame, mkF, argsToLocals, Value.category]; done) | rfl) ?_
  intro p e s m below meth c s₁ hx hZ hby hml hret hlk hnm hown X0 e0
  refine g_aloadN X0 hx (hb hby d10_0) (v := (.ref b)) rfl rfl (q := 1) rfl ?_
  refine g_getF X0 hx hZ hown (hw _ (List.mem_of_getElem? (i := 18) rfl)) Via.refl e0 F0 (hb hby d10_1) (q := 4) rfl fun T11 X11 e11 => ?_
  refine g_astore X11 hx (hb hby d10_4) rfl (L' := #[.val (.ref b), .val (.int o), .val (.int q), .val (.long tm), .second, .val (.ref ae)]) rfl (q := 6) rfl ?_
  refine g_aloadN X11 hx (hb hby d10_6) (v := (.ref b)) rfl rfl (q := 7) rfl ?_
  refine g_getF X11 hx hZ hown (hw _ (List.mem_of_getElem? (i := 25) rfl)) Via.refl e11 F1 (hb hby d10_7) (q := 10) rfl fun T12 X12 e12 => ?_
  refine g_iconst X12 hx (hb hby d10_10) (n := (1 : Int32)) (by decide) (q := 11) rfl ?_
  refine g_iadd X12 hx (hb hby d10_11) (z := cn1) hc1 (q := 12) rfl ?_
  refine g_iconst X12 hx (hb hby d10_12) (n := (2 : Int32)) (by decide) (q := 13) rfl ?_
  refine g_imul X12 hx (hb hby d10_13) (z := cz) hcz (q := 14) rfl ?_
  refine g_aload X12 hx (hb hby d10_14) (v := (.ref ae)) rfl rfl (q := 16) rfl ?_
  refine g_len X12 hx hZ e12 V0 (z := (32 : Int32)) rfl (hb hby d10_16) (q := 17) rfl ?_
  refine g_icmp_le X12 hx (hb hby d10_17) (by decide) (q := 38) (by decide) (q2 := 20) rfl (fun hb17 => ?_) (fun hb17 => absurd hb17 hle)
  refine g_aload X12 hx (hb hby d10_38) (v := (.ref ae)) rfl rfl (q := 40) rfl ?_
  refine g_aloadN X12 hx (hb hby d10_40) (v := (.ref b)) rfl rfl (q := 41) rfl ?_
  refine g_getF X12 hx hZ hown (hw _ (List.mem_of_getElem? (i := 25) rfl)) Via.refl e12 F1 (hb hby d10_41) (q := 44) rfl fun T13 X13 e13 => ?_
  refine g_iconst X13 hx (hb hby d10_44) (n := (2 : Int32)) (by decide) (q := 45) rfl ?_
  refine g_imul X13 hx (hb hby d10_45) (z := z0) hz0 (q := 46) rfl ?_
  refine g_iloadN X13 hx (hb hby d10_46) (v := o) rfl (q := 47) rfl ?_
  refine g_i2l X13 hx (hb hby d10_47) (z := (o.toInt64)) rfl (q := 48) rfl ?_
  refine g_bipush X13 hx (hb hby d10_48) (n := (32 : Int32)) (by decide) (q := 50) rfl ?_
  refine g_lshl X13 hx (hb hby d10_50) (z := ((o.toInt64) <<< ((32 : Int32) &&& 0x3f).toInt64)) rfl (q := 51) rfl ?_
  refine g_iloadN X13 hx (hb hby d10_51) (v := q) rfl (q := 52) rfl ?_
  refine g_i2l X13 hx (hb hby d10_52) (z := (q.toInt64)) rfl (q := 53) rfl ?_
  refine g_lor X13 hx (hb hby d10_53) (z := (own_entry o q)) rfl (q := 54) rfl ?_
  refine g_lastore X13 hx hZ e13 V0 h00 h01  (hb hby d10_54) (q := 55) rfl fun T14 h14 X14 e14 W14 U14 => ?_
  have N14 := Fr.snoc X14 (Fr.nil n0) hga
  have kp_14 := (Keep.refl h0 [b, ae]).wr W14 (Or.inl (List.mem_of_getElem? (i := 1) rfl))
  have f15 := (E0.wr W14)
  have f16 := (F0.other W14 (Or.inl nba))
  have f17 := (F1.other W14 (Or.inl nba))
  refine g_aload X14 hx (hb hby d10_55) (v := (.ref ae)) rfl rfl (q := 57) rfl ?_
  refine g_aloadN X14 hx (hb hby d10_57) (v := (.ref b)) rfl rfl (q := 58) rfl ?_
  refine g_getF X14 hx hZ hown (hw _ (List.mem_of_getElem? (i := 25) rfl)) Via.refl e14 f17 (hb hby d10_58) (q := 61) rfl fun T18 X18 e18 => ?_
  refine g_iconst X18 hx (hb hby d10_61) (n := (2 : Int32)) (by decide) (q := 62) rfl ?_
  refine g_imul X18 hx (hb hby d10_62) (z := z0) hz0 (q := 63) rfl ?_
  refine g_iconst X18 hx (hb hby d10_63) (n := (1 : Int32)) (by decide) (q := 64) rfl ?_
  refine g_iadd X18 hx (hb hby d10_64) (z := z1) hz1 (q := 65) rfl ?_
  refine g_lloadN X18 hx (hb hby d10_65) (v := tm) rfl (q := 66) rfl ?_
  refine g_lastore X18 hx hZ e18 U14 h10 h11  (hb hby d10_66) (q := 67) rfl fun T19 h19 X19 e19 W19 U19 => ?_
  have N19 := Fr.snoc X19 N14 hga
  have kp_19 := kp_14.wr W19 (Or.inl (List.mem_of_getElem? (i := 1) rfl))
  have f20 := (f15.wr W19)
  have f21 := (f16.other W19 (Or.inl nba))
  have f22 := (f17.other W19 (Or.inl nba))
  refine g_aloadN X19 hx (hb hby d10_67) (v := (.ref b)) rfl rfl (q := 68) rfl ?_
  refine g_aloadN X19 hx (hb hby d10_68) (v := (.ref b)) rfl rfl (q := 69) rfl ?_
  refine g_getF X19 hx hZ hown (hw _ (List.mem_of_getElem? (i := 25) rfl)) Via.refl e19 f22 (hb hby d10_69) (q := 72) rfl fun T23 X23 e23 => ?_
  refine g_iconst X23 hx (hb hby d10_72) (n := (1 : Int32)) (by decide) (q := 73) rfl ?_
  refine g_iadd X23 hx (hb hby d10_73) (z := cn1) hc1 (q := 74) rfl ?_
  refine g_putF X23 hx hZ hown (hw _ (List.mem_of_getElem? (i := 25) rfl)) Via.refl e23 f22 f20 (Or.inl (hw _ (List.mem_of_getElem? (i := 26) rfl))) (hw _ (List.mem_of_getElem? (i := 9) rfl)) (ty := .int) (by decide) rfl rfl (hb hby d10_74) (q := 77) rfl fun T24 h24 X24 e24 W24 => ?_
  have fw24 := f22.same W24
  have N24 := Fr.snoc X24 N19 hge
  have kp_24 := kp_19.wr W24 (Or.inl (List.mem_of_getElem? (i := 0) rfl))
  have f25 := (f20.wr W24)
  have f26 := (f21.other W24 (Or.inr (slot_ne (Or.inl (hw _ (List.mem_of_getElem? (i := 19) rfl))) (Or.inl (hw _ (List.mem_of_getElem? (i := 26) rfl))) (by decide) (t := (.array .long)) (t' := .int) (by decide) (by decide))))
  have f27 := (U19.other W24 (Ne.symm nba))
  exact g_retV X24 hx hret hlk (hb hby d10_77) ⟨rfl, N24, by rw [e24]; exact kp_24, by rw [e24]; exact f25, by rw [e24]; exact f26, by rw [e24]; exact fw24, by rw [e24]; exact f27⟩ (Nat.le_of_ble_eq_true rfl) (Nat.le_of_ble_eq_true rfl)
theorem d5_0 : decode prog_23_method_3_code 0 = .ok (.aload_n 0, 1) := by decide +kernel
theorem d5_1 : decode prog_23_method_3_code 1 = .ok (.getfield 9, 3) := by decide +kernel
theorem d5_4 : decode prog_23_method_3_code 4 = .ok (.astore_n 2, 1) := by decide +kernel
theorem d5_5 : decode prog_23_method_3_code 5 = .ok (.aload_n 0, 1) := by decide +kernel
theorem d5_6 : decode prog_23_method_3_code 6 = .ok (.getfield 13, 3) := by decide +kernel
theorem d5_9 : decode prog_23_method_3_code 9 = .ok (.istore_n 3, 1) := by decide +kernel
theorem d5_10 : decode prog_23_method_3_code 10 = .ok (.iload_n 3, 1) := by decide +kernel
theorem d5_11 : decode prog_23_method_3_code 11 = .ok (.ifCond .le 21, 3) := by decide +kernel
theorem d5_32 : decode prog_23_method_3_code 32 = .ok (.aload_n 0, 1) := by decide +kernel
theorem d5_33 : decode prog_23_method_3_code 33 = .ok (.iload_n 3, 1) := by decide +kernel
theorem d5_34 : decode prog_23_method_3_code 34 = .ok (.putfield 13, 3) := by decide +kernel
theorem d5_37 : decode prog_23_method_3_code 37 = .ok (.return_, 1) := by decide +kernel
set_option maxRecDepth 65536 in
set_option maxHeartbeats 40000000 in
theorem rmT0 (l : Launch) (Z : State) (a0 : Array Value) (hw : ∀ d ∈ tables_1, d.before a0 Z = true) (b ae : Addr) (t : Int32) (f : Nat → Value) (h0 : Heap) (n0 : Nat) (hge : n0 ≤ b) (nba : b ≠ ae) (E0 : Exa Z h0 b "com/example/newlyn/newlyn/storage/SegmentIndex") (F0 : Fld Z h0 b "com/example/newlyn/newlyn/storage/SegmentIndex" "entries" "[J" (.ref ae)) (F1 : Fld Z h0 b "com/example/newlyn/newlyn/storage/SegmentIndex" "count" "I" (.int (0 : Int32))) (V0 : Af Z h0 ae .long 32 f) :
    Con l Z h0 (⟨"com/example/newlyn/newlyn/storage/SegmentIndex", "truncate", "(I)V"⟩ : MethodName) prog_23_method_3_code 4 none ({ frames := 0, cells := 0, slots := 0, locals := 0 } : Room) #[(.ref b), (.int t)] (fun v h L => v = none ∧ Fr n0 L ∧ Keep h0 h [b] ∧ Exa Z h b "com/example/newlyn/newlyn/storage/SegmentIndex" ∧ Fld Z h b "com/example/newlyn/newlyn/storage/SegmentIndex" "entries" "[J" (.ref ae) ∧ Fld Z h b "com/example/newlyn/newlyn/storage/SegmentIndex" "count" "I" (.int (own_tr0 t))) := by
  refine con_of (plainFor_of_name pn_1) (Ls := #[.val (.ref b), .val (.int t), .unset, .unset]) (fun m => by first | (simp [entryFrame, mkF, argsToLocals, Value.category]; done) | rfl) ?_
  intro p e s m below meth c s₁ hx hZ hby hml hret hlk hnm hown X0 e0
  refine g_aloadN X0 hx (hb hby d5_0) (v := (.ref b)) rfl rfl (q := 1) rfl ?_
  refine g_getF X0 hx hZ hown (hw _ (List.mem_of_getElem? (i := 18) rfl)) Via.refl e0 F0 (hb hby d5_1) (q := 4) rfl fun T28 X28 e28 => ?_
  refine g_astoreN X28 hx (hb hby d5_4) rfl (L' := #[.val (.ref b), .val (.int t), .val (.ref ae), .unset]) rfl (q := 5) rfl ?_
  refine g_aloadN X28 hx (hb hby d5_5) (v := (.ref b)) rfl rfl (q := 6) rfl ?_
  refine g_getF X28 hx hZ hown (hw _ (List.mem_of_getElem? (i := 25) rfl)) Via.refl e28 F1 (hb hby d5_6) (q := 9) rfl fun T29 X29 e29 => ?_
  refine g_istoreN X29 hx (hb hby d5_9) (L' := #[.val (.ref b), .val (.int t), .val (.ref ae), .val (.int (0 : Int32))]) rfl (q := 10) rfl ?_
  refine g_iloadN X29 hx (hb hby d5_10) (v := (0 : Int32)) rfl (q := 11) rfl ?_
  refine g_if_le X29 hx (hb hby d5_11) (by decide) (q := 32) (by decide) (q2 := 14) rfl (fun hb11 => ?_) (fun hb11 => absurd hb11 (by decide))
  refine g_aloadN X29 hx (hb hby d5_32) (v := (.ref b)) rfl rfl (q := 33) rfl ?_
  refine g_iloadN X29 hx (hb hby d5_33) (v := (0 : Int32)) rfl (q := 34) rfl ?_
  refine g_putF X29 hx hZ hown (hw _ (List.mem_of_getElem? (i := 25) rfl)) Via.refl e29 F1 E0 (Or.inl (hw _ (List.mem_of_getElem? (i := 26) rfl))) (hw _ (List.mem_of_getElem? (i := 9) rfl)) (ty := .int) (by decide) rfl rfl (hb hby d5_34) (q := 37) rfl fun T30 h30 X30 e30 W30 => ?_
  have fw30 := F1.same W30
  have N30 := Fr.snoc X30 (Fr.nil n0) hge
  have kp_30 := (Keep.refl h0 [b]).wr W30 (Or.inl (List.mem_of_getElem? (i := 0) rfl))
  have f31 := (E0.wr W30)
  have f32 := (F0.other W30 (Or.inr (slot_ne (Or.inl (hw _ (List.mem_of_getElem? (i := 19) rfl))) (Or.inl (hw _ (List.mem_of_getElem? (i := 26) rfl))) (by decide) (t := (.array .long)) (t' := .int) (by decide) (by decide))))
  have f33 := (V0.other W30 (Ne.symm nba))
  exact g_retV X30 hx hret hlk (hb hby d5_37) ⟨rfl, N30, by rw [e30]; exact kp_30, by rw [e30]; exact f31, by rw [e30]; exact f32, by rw [e30, show own_tr0 t = (0 : Int32) from rfl]; exact fw30⟩ (Nat.le_of_ble_eq_true rfl) (Nat.le_of_ble_eq_true rfl)
theorem d5_14 : decode prog_23_method_3_code 14 = .ok (.aload_n 2, 1) := by decide +kernel
theorem d5_15 : decode prog_23_method_3_code 15 = .ok (.iload_n 3, 1) := by decide +kernel
theorem d5_16 : decode prog_23_method_3_code 16 = .ok (.iconst 1, 1) := by decide +kernel
theorem d5_17 : decode prog_23_method_3_code 17 = .ok (.isub, 1) := by decide +kernel
theorem d5_18 : decode prog_23_method_3_code 18 = .ok (.iconst 2, 1) := by decide +kernel
theorem d5_19 : decode prog_23_method_3_code 19 = .ok (.imul, 1) := by decide +kernel
theorem d5_20 : decode prog_23_method_3_code 20 = .ok (.laload, 1) := by decide +kernel
theorem d5_21 : decode prog_23_method_3_code 21 = .ok (.l2i, 1) := by decide +kernel
theorem d5_22 : decode prog_23_method_3_code 22 = .ok (.iload_n 1, 1) := by decide +kernel
theorem d5_23 : decode prog_23_method_3_code 23 = .ok (.if_icmp .lt 9, 3) := by decide +kernel
theorem d5_26 : decode prog_23_method_3_code 26 = .ok (.iinc 3 (-1), 3) := by decide +kernel
theorem d5_29 : decode prog_23_method_3_code 29 = .ok (.goto (-19), 3) := by decide +kernel
set_option maxRecDepth 65536 in
set_option maxHeartbeats 40000000 in
theorem rmT1 (l : Launch) (Z : State) (a0 : Array Value) (hw : ∀ d ∈ tables_1, d.before a0 Z = true) (b ae : Addr) (t : Int32) (p0 : Int32) (ev0 : Int64) (f : Nat → Value) (h0 : Heap) (n0 : Nat) (hge : n0 ≤ b) (nba : b ≠ ae) (E0 : Exa Z h0 b "com/example/newlyn/newlyn/storage/SegmentIndex") (F0 : Fld Z h0 b "com/example/newlyn/newlyn/storage/SegmentIndex" "entries" "[J" (.ref ae)) (F1 : Fld Z h0 b "com/example/newlyn/newlyn/storage/SegmentIndex" "count" "I" (.int (1 : Int32))) (V0 : Af Z h0 ae .long 32 f) (q0 : f (0 : Int32).toNatClampNeg = .long ev0) (r0 : ev0.toInt32 = p0) :
    Con l Z h0 (⟨"com/example/newlyn/newlyn/storage/SegmentIndex", "truncate", "(I)V"⟩ : MethodName) prog_23_method_3_code 4 none ({ frames := 0, cells := 0, slots := 0, locals := 0 } : Room) #[(.ref b), (.int t)] (fun v h L => v = none ∧ Fr n0 L ∧ Keep h0 h [b] ∧ Exa Z h b "com/example/newlyn/newlyn/storage/SegmentIndex" ∧ Fld Z h b "com/example/newlyn/newlyn/storage/SegmentIndex" "entries" "[J" (.ref ae) ∧ Fld Z h b "com/example/newlyn/newlyn/storage/SegmentIndex" "count" "I" (.int (own_tr1 t p0))) := by
  refine con_of (plainFor_of_name pn_1) (Ls := #[.val (.ref b), .val (.int t), .unset, .unset]) (fun m => by first | (simp [entryFrame, mkF, argsToLocals, Value.category]; done) | rfl) ?_
  intro p e s m below meth c s₁ hx hZ hby hml hret hlk hnm hown X0 e0
  refine g_aloadN X0 hx (hb hby d5_0) (v := (.ref b)) rfl rfl (q := 1) rfl ?_
  refine g_getF X0 hx hZ hown (hw _ (List.mem_of_getElem? (i := 18) rfl)) Via.refl e0 F0 (hb hby d5_1) (q := 4) rfl fun T34 X34 e34 => ?_
  refine g_astoreN X34 hx (hb hby d5_4) rfl (L' := #[.val (.ref b), .val (.int t), .val (.ref ae), .unset]) rfl (q := 5) rfl ?_
  refine g_aloadN X34 hx (hb hby d5_5) (v := (.ref b)) rfl rfl (q := 6) rfl ?_
  refine g_getF X34 hx hZ hown (hw _ (List.mem_of_getElem? (i := 25) rfl)) Via.refl e34 F1 (hb hby d5_6) (q := 9) rfl fun T35 X35 e35 => ?_
  refine g_istoreN X35 hx (hb hby d5_9) (L' := #[.val (.ref b), .val (.int t), .val (.ref ae), .val (.int (1 : Int32))]) rfl (q := 10) rfl ?_
  refine g_iloadN X35 hx (hb hby d5_10) (v := (1 : Int32)) rfl (q := 11) rfl ?_
  refine g_if_le X35 hx (hb hby d5_11) (by decide) (q := 32) (by decide) (q2 := 14) rfl (fun hb11 => absurd hb11 (by decide)) (fun hb11 => ?_)
  refine g_aloadN X35 hx (hb hby d5_14) (v := (.ref ae)) rfl rfl (q := 15) rfl ?_
  refine g_iloadN X35 hx (hb hby d5_15) (v := (1 : Int32)) rfl (q := 16) rfl ?_
  refine g_iconst X35 hx (hb hby d5_16) (n := (1 : Int32)) (by decide) (q := 17) rfl ?_
  refine g_isub X35 hx (hb hby d5_17) (z := (0 : Int32)) (by decide) (q := 18) rfl ?_
  refine g_iconst X35 hx (hb hby d5_18) (n := (2 : Int32)) (by decide) (q := 19) rfl ?_
  refine g_imul X35 hx (hb hby d5_19) (z := (0 : Int32)) (by decide) (q := 20) rfl ?_
  refine g_laload X35 hx hZ e35 V0 (by decide) (by decide) (v := (.long ev0)) q0 (hb hby d5_20) (q := 21) rfl ?_
  refine g_l2i X35 hx (hb hby d5_21) (z := p0) r0 (q := 22) rfl ?_
  refine g_iloadN X35 hx (hb hby d5_22) (v := t) rfl (q := 23) rfl ?_
  refine g_icmp_lt X35 hx (hb hby d5_23) (by decide) (q := 32) (by decide) (q2 := 26) rfl (fun hb23 => ?_) (fun hb23 => ?_)
  · refine g_aloadN X35 hx (hb hby d5_32) (v := (.ref b)) rfl rfl (q := 33) rfl ?_
    refine g_iloadN X35 hx (hb hby d5_33) (v := (1 : Int32)) rfl (q := 34) rfl ?_
    refine g_putF X35 hx hZ hown (hw _ (List.mem_of_getElem? (i := 25) rfl)) Via.refl e35 F1 E0 (Or.inl (hw _ (List.mem_of_getElem? (i := 26) rfl))) (hw _ (List.mem_of_getElem? (i := 9) rfl)) (ty := .int) (by decide) rfl rfl (hb hby d5_34) (q := 37) rfl fun T36 h36 X36 e36 W36 => ?_
    have fw36 := F1.same W36
    have N36 := Fr.snoc X36 (Fr.nil n0) hge
    have kp_36 := (Keep.refl h0 [b]).wr W36 (Or.inl (List.mem_of_getElem? (i := 0) rfl))
    have f37 := (E0.wr W36)
    have f38 := (F0.other W36 (Or.inr (slot_ne (Or.inl (hw _ (List.mem_of_getElem? (i := 19) rfl))) (Or.inl (hw _ (List.mem_of_getElem? (i := 26) rfl))) (by decide) (t := (.array .long)) (t' := .int) (by decide) (by decide))))
    have f39 := (V0.other W36 (Ne.symm nba))
    exact g_retV X36 hx hret hlk (hb hby d5_37) ⟨rfl, N36, by rw [e36]; exact kp_36, by rw [e36]; exact f37, by rw [e36]; exact f38, by rw [e36, show own_tr1 t p0 = (1 : Int32) from by rw [own_tr1, if_pos hb23]]; exact fw36⟩ (Nat.le_of_ble_eq_true rfl) (Nat.le_of_ble_eq_true rfl)
  · have hk0 := hb23
    refine g_iinc X35 hx (hb hby d5_26) (x := (1 : Int32)) rfl (z := (0 : Int32)) (by decide) (L' := #[.val (.ref b), .val (.int t), .val (.ref ae), .val (.int (0 : Int32))]) rfl (q := 29) rfl ?_
    refine g_goto X35 hx (hb hby d5_29) (by decide) (q := 10) (by decide) ?_
    refine g_iloadN X35 hx (hb hby d5_10) (v := (0 : Int32)) rfl (q := 11) rfl ?_
    refine g_if_le X35 hx (hb hby d5_11) (by decide) (q := 32) (by decide) (q2 := 14) rfl (fun hb11 => ?_) (fun hb11 => absurd hb11 (by decide))
    refine g_aloadN X35 hx (hb hby d5_32) (v := (.ref b)) rfl rfl (q := 33) rfl ?_
    refine g_iloadN X35 hx (hb hby d5_33) (v := (0 : Int32)) rfl (q := 34) rfl ?_
    refine g_putF X35 hx hZ hown (hw _ (List.mem_of_getElem? (i := 25) rfl)) Via.refl e35 F1 E0 (Or.inl (hw _ (List.mem_of_getElem? (i := 26) rfl))) (hw _ (List.mem_of_getElem? (i := 9) rfl)) (ty := .int) (by decide) rfl rfl (hb hby d5_34) (q := 37) rfl fun T40 h40 X40 e40 W40 => ?_
    have fw40 := F1.same W40
    have N40 := Fr.snoc X40 (Fr.nil n0) hge
    have kp_40 := (Keep.refl h0 [b]).wr W40 (Or.inl (List.mem_of_getElem? (i := 0) rfl))
    have f41 := (E0.wr W40)
    have f42 := (F0.other W40 (Or.inr (slot_ne (Or.inl (hw _ (List.mem_of_getElem? (i := 19) rfl))) (Or.inl (hw _ (List.mem_of_getElem? (i := 26) rfl))) (by decide) (t := (.array .long)) (t' := .int) (by decide) (by decide))))
    have f43 := (V0.other W40 (Ne.symm nba))
    exact g_retV X40 hx hret hlk (hb hby d5_37) ⟨rfl, N40, by rw [e40]; exact kp_40, by rw [e40]; exact f41, by rw [e40]; exact f42, by rw [e40, show own_tr1 t p0 = (0 : Int32) from by rw [own_tr1, if_neg hk0]]; exact fw40⟩ (Nat.le_of_ble_eq_true rfl) (Nat.le_of_ble_eq_true rfl)
set_option maxRecDepth 65536 in
set_option maxHeartbeats 40000000 in
theorem rmT2 (l : Launch) (Z : State) (a0 : Array Value) (hw : ∀ d ∈ tables_1, d.before a0 Z = true) (b ae : Addr) (t : Int32) (p0 p1 : Int32) (ev0 ev1 : Int64) (f : Nat → Value) (h0 : Heap) (n0 : Nat) (hge : n0 ≤ b) (nba : b ≠ ae) (E0 : Exa Z h0 b "com/example/newlyn/newlyn/storage/SegmentIndex") (F0 : Fld Z h0 b "com/example/newlyn/newlyn/storage/SegmentIndex" "entries" "[J" (.ref ae)) (F1 : Fld Z h0 b "com/example/newlyn/newlyn/storage/SegmentIndex" "count" "I" (.int (2 : Int32))) (V0 : Af Z h0 ae .long 32 f) (q0 : f (0 : Int32).toNatClampNeg = .long ev0) (r0 : ev0.toInt32 = p0) (q1 : f (2 : Int32).toNatClampNeg = .long ev1) (r1 : ev1.toInt32 = p1) :
    Con l Z h0 (⟨"com/example/newlyn/newlyn/storage/SegmentIndex", "truncate", "(I)V"⟩ : MethodName) prog_23_method_3_code 4 none ({ frames := 0, cells := 0, slots := 0, locals := 0 } : Room) #[(.ref b), (.int t)] (fun v h L => v = none ∧ Fr n0 L ∧ Keep h0 h [b] ∧ Exa Z h b "com/example/newlyn/newlyn/storage/SegmentIndex" ∧ Fld Z h b "com/example/newlyn/newlyn/storage/SegmentIndex" "entries" "[J" (.ref ae) ∧ Fld Z h b "com/example/newlyn/newlyn/storage/SegmentIndex" "count" "I" (.int (own_tr2 t p0 p1))) := by
  refine con_of (plainFor_of_name pn_1) (Ls := #[.val (.ref b), .val (.int t), .unset, .unset]) (fun m => by first | (simp [entryFrame, mkF, argsToLocals, Value.category]; done) | rfl) ?_
  intro p e s m below meth c s₁ hx hZ hby hml hret hlk hnm hown X0 e0
  refine g_aloadN X0 hx (hb hby d5_0) (v := (.ref b)) rfl rfl (q := 1) rfl ?_
  refine g_getF X0 hx hZ hown (hw _ (List.mem_of_getElem? (i := 18) rfl)) Via.refl e0 F0 (hb hby d5_1) (q := 4) rfl fun T44 X44 e44 => ?_
  refine g_astoreN X44 hx (hb hby d5_4) rfl (L' := #[.val (.ref b), .val (.int t), .val (.ref ae), .unset]) rfl (q := 5) rfl ?_
  refine g_aloadN X44 hx (hb hby d5_5) (v := (.ref b)) rfl rfl (q := 6) rfl ?_
  refine g_getF X44 hx hZ hown (hw _ (List.mem_of_getElem? (i := 25) rfl)) Via.refl e44 F1 (hb hby d5_6) (q := 9) rfl fun T45 X45 e45 => ?_
  refine g_istoreN X45 hx (hb hby d5_9) (L' := #[.val (.ref b), .val (.int t), .val (.ref ae), .val (.int (2 : Int32))]) rfl (q := 10) rfl ?_
  refine g_iloadN X45 hx (hb hby d5_10) (v := (2 : Int32)) rfl (q := 11) rfl ?_
  refine g_if_le X45 hx (hb hby d5_11) (by decide) (q := 32) (by decide) (q2 := 14) rfl (fun hb11 => absurd hb11 (by decide)) (fun hb11 => ?_)
  refine g_aloadN X45 hx (hb hby d5_14) (v := (.ref ae)) rfl rfl (q := 15) rfl ?_
  refine g_iloadN X45 hx (hb hby d5_15) (v := (2 : Int32)) rfl (q := 16) rfl ?_
  refine g_iconst X45 hx (hb hby d5_16) (n := (1 : Int32)) (by decide) (q := 17) rfl ?_
  refine g_isub X45 hx (hb hby d5_17) (z := (1 : Int32)) (by decide) (q := 18) rfl ?_
  refine g_iconst X45 hx (hb hby d5_18) (n := (2 : Int32)) (by decide) (q := 19) rfl ?_
  refine g_imul X45 hx (hb hby d5_19) (z := (2 : Int32)) (by decide) (q := 20) rfl ?_
  refine g_laload X45 hx hZ e45 V0 (by decide) (by decide) (v := (.long ev1)) q1 (hb hby d5_20) (q := 21) rfl ?_
  refine g_l2i X45 hx (hb hby d5_21) (z := p1) r1 (q := 22) rfl ?_
  refine g_iloadN X45 hx (hb hby d5_22) (v := t) rfl (q := 23) rfl ?_
  refine g_icmp_lt X45 hx (hb hby d5_23) (by decide) (q := 32) (by decide) (q2 := 26) rfl (fun hb23 => ?_) (fun hb23 => ?_)
  · refine g_aloadN X45 hx (hb hby d5_32) (v := (.ref b)) rfl rfl (q := 33) rfl ?_
    refine g_iloadN X45 hx (hb hby d5_33) (v := (2 : Int32)) rfl (q := 34) rfl ?_
    refine g_putF X45 hx hZ hown (hw _ (List.mem_of_getElem? (i := 25) rfl)) Via.refl e45 F1 E0 (Or.inl (hw _ (List.mem_of_getElem? (i := 26) rfl))) (hw _ (List.mem_of_getElem? (i := 9) rfl)) (ty := .int) (by decide) rfl rfl (hb hby d5_34) (q := 37) rfl fun T46 h46 X46 e46 W46 => ?_
    have fw46 := F1.same W46
    have N46 := Fr.snoc X46 (Fr.nil n0) hge
    have kp_46 := (Keep.refl h0 [b]).wr W46 (Or.inl (List.mem_of_getElem? (i := 0) rfl))
    have f47 := (E0.wr W46)
    have f48 := (F0.other W46 (Or.inr (slot_ne (Or.inl (hw _ (List.mem_of_getElem? (i := 19) rfl))) (Or.inl (hw _ (List.mem_of_getElem? (i := 26) rfl))) (by decide) (t := (.array .long)) (t' := .int) (by decide) (by decide))))
    have f49 := (V0.other W46 (Ne.symm nba))
    exact g_retV X46 hx hret hlk (hb hby d5_37) ⟨rfl, N46, by rw [e46]; exact kp_46, by rw [e46]; exact f47, by rw [e46]; exact f48, by rw [e46, show own_tr2 t p0 p1 = (2 : Int32) from by rw [own_tr2, if_pos hb23]]; exact fw46⟩ (Nat.le_of_ble_eq_true rfl) (Nat.le_of_ble_eq_true rfl)
  · have hk1 := hb23
    refine g_iinc X45 hx (hb hby d5_26) (x := (2 : Int32)) rfl (z := (1 : Int32)) (by decide) (L' := #[.val (.ref b), .val (.int t), .val (.ref ae), .val (.int (1 : Int32))]) rfl (q := 29) rfl ?_
    refine g_goto X45 hx (hb hby d5_29) (by decide) (q := 10) (by decide) ?_
    refine g_iloadN X45 hx (hb hby d5_10) (v := (1 : Int32)) rfl (q := 11) rfl ?_
    refine g_if_le X45 hx (hb hby d5_11) (by decide) (q := 32) (by decide) (q2 := 14) rfl (fun hb11 => absurd hb11 (by decide)) (fun hb11 => ?_)
    refine g_aloadN X45 hx (hb hby d5_14) (v := (.ref ae)) rfl rfl (q := 15) rfl ?_
    refine g_iloadN X45 hx (hb hby d5_15) (v := (1 : Int32)) rfl (q := 16) rfl ?_
    refine g_iconst X45 hx (hb hby d5_16) (n := (1 : Int32)) (by decide) (q := 17) rfl ?_
    refine g_isub X45 hx (hb hby d5_17) (z := (0 : Int32)) (by decide) (q := 18) rfl ?_
    refine g_iconst X45 hx (hb hby d5_18) (n := (2 : Int32)) (by decide) (q := 19) rfl ?_
    refine g_imul X45 hx (hb hby d5_19) (z := (0 : Int32)) (by decide) (q := 20) rfl ?_
    refine g_laload X45 hx hZ e45 V0 (by decide) (by decide) (v := (.long ev0)) q0 (hb hby d5_20) (q := 21) rfl ?_
    refine g_l2i X45 hx (hb hby d5_21) (z := p0) r0 (q := 22) rfl ?_
    refine g_iloadN X45 hx (hb hby d5_22) (v := t) rfl (q := 23) rfl ?_
    refine g_icmp_lt X45 hx (hb hby d5_23) (by decide) (q := 32) (by decide) (q2 := 26) rfl (fun hb23 => ?_) (fun hb23 => ?_)
    · refine g_aloadN X45 hx (hb hby d5_32) (v := (.ref b)) rfl rfl (q := 33) rfl ?_
      refine g_iloadN X45 hx (hb hby d5_33) (v := (1 : Int32)) rfl (q := 34) rfl ?_
      refine g_putF X45 hx hZ hown (hw _ (List.mem_of_getElem? (i := 25) rfl)) Via.refl e45 F1 E0 (Or.inl (hw _ (List.mem_of_getElem? (i := 26) rfl))) (hw _ (List.mem_of_getElem? (i := 9) rfl)) (ty := .int) (by decide) rfl rfl (hb hby d5_34) (q := 37) rfl fun T50 h50 X50 e50 W50 => ?_
      have fw50 := F1.same W50
      have N50 := Fr.snoc X50 (Fr.nil n0) hge
      have kp_50 := (Keep.refl h0 [b]).wr W50 (Or.inl (List.mem_of_getElem? (i := 0) rfl))
      have f51 := (E0.wr W50)
      have f52 := (F0.other W50 (Or.inr (slot_ne (Or.inl (hw _ (List.mem_of_getElem? (i := 19) rfl))) (Or.inl (hw _ (List.mem_of_getElem? (i := 26) rfl))) (by decide) (t := (.array .long)) (t' := .int) (by decide) (by decide))))
      have f53 := (V0.other W50 (Ne.symm nba))
      exact g_retV X50 hx hret hlk (hb hby d5_37) ⟨rfl, N50, by rw [e50]; exact kp_50, by rw [e50]; exact f51, by rw [e50]; exact f52, by rw [e50, show own_tr2 t p0 p1 = (1 : Int32) from by rw [own_tr2, if_neg hk1, if_pos hb23]]; exact fw50⟩ (Nat.le_of_ble_eq_true rfl) (Nat.le_of_ble_eq_true rfl)
    · have hk0 := hb23
      refine g_iinc X45 hx (hb hby d5_26) (x := (1 : Int32)) rfl (z := (0 : Int32)) (by decide) (L' := #[.val (.ref b), .val (.int t), .val (.ref ae), .val (.int (0 : Int32))]) rfl (q := 29) rfl ?_
      refine g_goto X45 hx (hb hby d5_29) (by decide) (q := 10) (by decide) ?_
      refine g_iloadN X45 hx (hb hby d5_10) (v := (0 : Int32)) rfl (q := 11) rfl ?_
      refine g_if_le X45 hx (hb hby d5_11) (by decide) (q := 32) (by decide) (q2 := 14) rfl (fun hb11 => ?_) (fun hb11 => absurd hb11 (by decide))
      refine g_aloadN X45 hx (hb hby d5_32) (v := (.ref b)) rfl rfl (q := 33) rfl ?_
      refine g_iloadN X45 hx (hb hby d5_33) (v := (0 : Int32)) rfl (q := 34) rfl ?_
      refine g_putF X45 hx hZ hown (hw _ (List.mem_of_getElem? (i := 25) rfl)) Via.refl e45 F1 E0 (Or.inl (hw _ (List.mem_of_getElem? (i := 26) rfl))) (hw _ (List.mem_of_getElem? (i := 9) rfl)) (ty := .int) (by decide) rfl rfl (hb hby d5_34) (q := 37) rfl fun T54 h54 X54 e54 W54 => ?_
      have fw54 := F1.same W54
      have N54 := Fr.snoc X54 (Fr.nil n0) hge
      have kp_54 := (Keep.refl h0 [b]).wr W54 (Or.inl (List.mem_of_getElem? (i := 0) rfl))
      have f55 := (E0.wr W54)
      have f56 := (F0.other W54 (Or.inr (slot_ne (Or.inl (hw _ (List.mem_of_getElem? (i := 19) rfl))) (Or.inl (hw _ (List.mem_of_getElem? (i := 26) rfl))) (by decide) (t := (.array .long)) (t' := .int) (by decide) (by decide))))
      have f57 := (V0.other W54 (Ne.symm nba))
      exact g_retV X54 hx hret hlk (hb hby d5_37) ⟨rfl, N54, by rw [e54]; exact kp_54, by rw [e54]; exact f55, by rw [e54]; exact f56, by rw [e54, show own_tr2 t p0 p1 = (0 : Int32) from by rw [own_tr2, if_neg hk1, if_neg hk0]]; exact fw54⟩ (Nat.le_of_ble_eq_true rfl) (Nat.le_of_ble_eq_true rfl)
set_option maxRecDepth 65536 in
set_option maxHeartbeats 40000000 in
theorem rmT3 (l : Launch) (Z : State) (a0 : Array Value) (hw : ∀ d ∈ tables_1, d.before a0 Z = true) (b ae : Addr) (t : Int32) (p0 p1 p2 : Int32) (ev0 ev1 ev2 : Int64) (f : Nat → Value) (h0 : Heap) (n0 : Nat) (hge : n0 ≤ b) (nba : b ≠ ae) (E0 : Exa Z h0 b "com/example/newlyn/newlyn/storage/SegmentIndex") (F0 : Fld Z h0 b "com/example/newlyn/newlyn/storage/SegmentIndex" "entries" "[J" (.ref ae)) (F1 : Fld Z h0 b "com/example/newlyn/newlyn/storage/SegmentIndex" "count" "I" (.int (3 : Int32))) (V0 : Af Z h0 ae .long 32 f) (q0 : f (0 : Int32).toNatClampNeg = .long ev0) (r0 : ev0.toInt32 = p0) (q1 : f (2 : Int32).toNatClampNeg = .long ev1) (r1 : ev1.toInt32 = p1) (q2 : f (4 : Int32).toNatClampNeg = .long ev2) (r2 : ev2.toInt32 = p2) :
    Con l Z h0 (⟨"com/example/newlyn/newlyn/storage/SegmentIndex", "truncate", "(I)V"⟩ : MethodName) prog_23_method_3_code 4 none ({ frames := 0, cells := 0, slots := 0, locals := 0 } : Room) #[(.ref b), (.int t)] (fun v h L => v = none ∧ Fr n0 L ∧ Keep h0 h [b] ∧ Exa Z h b "com/example/newlyn/newlyn/storage/SegmentIndex" ∧ Fld Z h b "com/example/newlyn/newlyn/storage/SegmentIndex" "entries" "[J" (.ref ae) ∧ Fld Z h b "com/example/newlyn/newlyn/storage/SegmentIndex" "count" "I" (.int (own_tr3 t p0 p1 p2))) := by
  refine con_of (plainFor_of_name pn_1) (Ls := #[.val (.ref b), .val (.int t), .unset, .unset]) (fun m => by first | (simp [entryFrame, mkF, argsToLocals, Value.category]; done) | rfl) ?_
  intro p e s m below meth c s₁ hx hZ hby hml hret hlk hnm hown X0 e0
  refine g_aloadN X0 hx (hb hby d5_0) (v := (.ref b)) rfl rfl (q := 1) rfl ?_
  refine g_getF X0 hx hZ hown (hw _ (List.mem_of_getElem? (i := 18) rfl)) Via.refl e0 F0 (hb hby d5_1) (q := 4) rfl fun T58 X58 e58 => ?_
  refine g_astoreN X58 hx (hb hby d5_4) rfl (L' := #[.val (.ref b), .val (.int t), .val (.ref ae), .unset]) rfl (q := 5) rfl ?_
  refine g_aloadN X58 hx (hb hby d5_5) (v := (.ref b)) rfl rfl (q := 6) rfl ?_
  refine g_getF X58 hx hZ hown (hw _ (List.mem_of_getElem? (i := 25) rfl)) Via.refl e58 F1 (hb hby d5_6) (q := 9) rfl fun T59 X59 e59 => ?_
  refine g_istoreN X59 hx (hb hby d5_9) (L' := #[.val (.ref b), .val (.int t), .val (.ref ae), .val (.int (3 : Int32))]) rfl (q := 10) rfl ?_
  refine g_iloadN X59 hx (hb hby d5_10) (v := (3 : Int32)) rfl (q := 11) rfl ?_
  refine g_if_le X59 hx (hb hby d5_11) (by decide) (q := 32) (by decide) (q2 := 14) rfl (fun hb11 => absurd hb11 (by decide)) (fun hb11 => ?_)
  refine g_aloadN X59 hx (hb hby d5_14) (v := (.ref ae)) rfl rfl (q := 15) rfl ?_
  refine g_iloadN X59 hx (hb hby d5_15) (v := (3 : Int32)) rfl (q := 16) rfl ?_
  refine g_iconst X59 hx (hb hby d5_16) (n := (1 : Int32)) (by decide) (q := 17) rfl ?_
  refine g_isub X59 hx (hb hby d5_17) (z := (2 : Int32)) (by decide) (q := 18) rfl ?_
  refine g_iconst X59 hx (hb hby d5_18) (n := (2 : Int32)) (by decide) (q := 19) rfl ?_
  refine g_imul X59 hx (hb hby d5_19) (z := (4 : Int32)) (by decide) (q := 20) rfl ?_
  refine g_laload X59 hx hZ e59 V0 (by decide) (by decide) (v := (.long ev2)) q2 (hb hby d5_20) (q := 21) rfl ?_
  refine g_l2i X59 hx (hb hby d5_21) (z := p2) r2 (q := 22) rfl ?_
  refine g_iloadN X59 hx (hb hby d5_22) (v := t) rfl (q := 23) rfl ?_
  refine g_icmp_lt X59 hx (hb hby d5_23) (by decide) (q := 32) (by decide) (q2 := 26) rfl (fun hb23 => ?_) (fun hb23 => ?_)
  · refine g_aloadN X59 hx (hb hby d5_32) (v := (.ref b)) rfl rfl (q := 33) rfl ?_
    refine g_iloadN X59 hx (hb hby d5_33) (v := (3 : Int32)) rfl (q := 34) rfl ?_
    refine g_putF X59 hx hZ hown (hw _ (List.mem_of_getElem? (i := 25) rfl)) Via.refl e59 F1 E0 (Or.inl (hw _ (List.mem_of_getElem? (i := 26) rfl))) (hw _ (List.mem_of_getElem? (i := 9) rfl)) (ty := .int) (by decide) rfl rfl (hb hby d5_34) (q := 37) rfl fun T60 h60 X60 e60 W60 => ?_
    have fw60 := F1.same W60
    have N60 := Fr.snoc X60 (Fr.nil n0) hge
    have kp_60 := (Keep.refl h0 [b]).wr W60 (Or.inl (List.mem_of_getElem? (i := 0) rfl))
    have f61 := (E0.wr W60)
    have f62 := (F0.other W60 (Or.inr (slot_ne (Or.inl (hw _ (List.mem_of_getElem? (i := 19) rfl))) (Or.inl (hw _ (List.mem_of_getElem? (i := 26) rfl))) (by decide) (t := (.array .long)) (t' := .int) (by decide) (by decide))))
    have f63 := (V0.other W60 (Ne.symm nba))
    exact g_retV X60 hx hret hlk (hb hby d5_37) ⟨rfl, N60, by rw [e60]; exact kp_60, by rw [e60]; exact f61, by rw [e60]; exact f62, by rw [e60, show own_tr3 t p0 p1 p2 = (3 : Int32) from by rw [own_tr3, if_pos hb23]]; exact fw60⟩ (Nat.le_of_ble_eq_true rfl) (Nat.le_of_ble_eq_true rfl)
  · have hk2 := hb23
    refine g_iinc X59 hx (hb hby d5_26) (x := (3 : Int32)) rfl (z := (2 : Int32)) (by decide) (L' := #[.val (.ref b), .val (.int t), .val (.ref ae), .val (.int (2 : Int32))]) rfl (q := 29) rfl ?_
    refine g_goto X59 hx (hb hby d5_29) (by decide) (q := 10) (by decide) ?_
    refine g_iloadN X59 hx (hb hby d5_10) (v := (2 : Int32)) rfl (q := 11) rfl ?_
    refine g_if_le X59 hx (hb hby d5_11) (by decide) (q := 32) (by decide) (q2 := 14) rfl (fun hb11 => absurd hb11 (by decide)) (fun hb11 => ?_)
    refine g_aloadN X59 hx (hb hby d5_14) (v := (.ref ae)) rfl rfl (q := 15) rfl ?_
    refine g_iloadN X59 hx (hb hby d5_15) (v := (2 : Int32)) rfl (q := 16) rfl ?_
    refine g_iconst X59 hx (hb hby d5_16) (n := (1 : Int32)) (by decide) (q := 17) rfl ?_
    refine g_isub X59 hx (hb hby d5_17) (z := (1 : Int32)) (by decide) (q := 18) rfl ?_
    refine g_iconst X59 hx (hb hby d5_18) (n := (2 : Int32)) (by decide) (q := 19) rfl ?_
    refine g_imul X59 hx (hb hby d5_19) (z := (2 : Int32)) (by decide) (q := 20) rfl ?_
    refine g_laload X59 hx hZ e59 V0 (by decide) (by decide) (v := (.long ev1)) q1 (hb hby d5_20) (q := 21) rfl ?_
    refine g_l2i X59 hx (hb hby d5_21) (z := p1) r1 (q := 22) rfl ?_
    refine g_iloadN X59 hx (hb hby d5_22) (v := t) rfl (q := 23) rfl ?_
    refine g_icmp_lt X59 hx (hb hby d5_23) (by decide) (q := 32) (by decide) (q2 := 26) rfl (fun hb23 => ?_) (fun hb23 => ?_)
    · refine g_aloadN X59 hx (hb hby d5_32) (v := (.ref b)) rfl rfl (q := 33) rfl ?_
      refine g_iloadN X59 hx (hb hby d5_33) (v := (2 : Int32)) rfl (q := 34) rfl ?_
      refine g_putF X59 hx hZ hown (hw _ (List.mem_of_getElem? (i := 25) rfl)) Via.refl e59 F1 E0 (Or.inl (hw _ (List.mem_of_getElem? (i := 26) rfl))) (hw _ (List.mem_of_getElem? (i := 9) rfl)) (ty := .int) (by decide) rfl rfl (hb hby d5_34) (q := 37) rfl fun T64 h64 X64 e64 W64 => ?_
      have fw64 := F1.same W64
      have N64 := Fr.snoc X64 (Fr.nil n0) hge
      have kp_64 := (Keep.refl h0 [b]).wr W64 (Or.inl (List.mem_of_getElem? (i := 0) rfl))
      have f65 := (E0.wr W64)
      have f66 := (F0.other W64 (Or.inr (slot_ne (Or.inl (hw _ (List.mem_of_getElem? (i := 19) rfl))) (Or.inl (hw _ (List.mem_of_getElem? (i := 26) rfl))) (by decide) (t := (.array .long)) (t' := .int) (by decide) (by decide))))
      have f67 := (V0.other W64 (Ne.symm nba))
      exact g_retV X64 hx hret hlk (hb hby d5_37) ⟨rfl, N64, by rw [e64]; exact kp_64, by rw [e64]; exact f65, by rw [e64]; exact f66, by rw [e64, show own_tr3 t p0 p1 p2 = (2 : Int32) from by rw [own_tr3, if_neg hk2, if_pos hb23]]; exact fw64⟩ (Nat.le_of_ble_eq_true rfl) (Nat.le_of_ble_eq_true rfl)
    · have hk1 := hb23
      refine g_iinc X59 hx (hb hby d5_26) (x := (2 : Int32)) rfl (z := (1 : Int32)) (by decide) (L' := #[.val (.ref b), .val (.int t), .val (.ref ae), .val (.int (1 : Int32))]) rfl (q := 29) rfl ?_
      refine g_goto X59 hx (hb hby d5_29) (by decide) (q := 10) (by decide) ?_
      refine g_iloadN X59 hx (hb hby d5_10) (v := (1 : Int32)) rfl (q := 11) rfl ?_
      refine g_if_le X59 hx (hb hby d5_11) (by decide) (q := 32) (by decide) (q2 := 14) rfl (fun hb11 => absurd hb11 (by decide)) (fun hb11 => ?_)
      refine g_aloadN X59 hx (hb hby d5_14) (v := (.ref ae)) rfl rfl (q := 15) rfl ?_
      refine g_iloadN X59 hx (hb hby d5_15) (v := (1 : Int32)) rfl (q := 16) rfl ?_
      refine g_iconst X59 hx (hb hby d5_16) (n := (1 : Int32)) (by decide) (q := 17) rfl ?_
      refine g_isub X59 hx (hb hby d5_17) (z := (0 : Int32)) (by decide) (q := 18) rfl ?_
      refine g_iconst X59 hx (hb hby d5_18) (n := (2 : Int32)) (by decide) (q := 19) rfl ?_
      refine g_imul X59 hx (hb hby d5_19) (z := (0 : Int32)) (by decide) (q := 20) rfl ?_
      refine g_laload X59 hx hZ e59 V0 (by decide) (by decide) (v := (.long ev0)) q0 (hb hby d5_20) (q := 21) rfl ?_
      refine g_l2i X59 hx (hb hby d5_21) (z := p0) r0 (q := 22) rfl ?_
      refine g_iloadN X59 hx (hb hby d5_22) (v := t) rfl (q := 23) rfl ?_
      refine g_icmp_lt X59 hx (hb hby d5_23) (by decide) (q := 32) (by decide) (q2 := 26) rfl (fun hb23 => ?_) (fun hb23 => ?_)
      · refine g_aloadN X59 hx (hb hby d5_32) (v := (.ref b)) rfl rfl (q := 33) rfl ?_
        refine g_iloadN X59 hx (hb hby d5_33) (v := (1 : Int32)) rfl (q := 34) rfl ?_
        refine g_putF X59 hx hZ hown (hw _ (List.mem_of_getElem? (i := 25) rfl)) Via.refl e59 F1 E0 (Or.inl (hw _ (List.mem_of_getElem? (i := 26) rfl))) (hw _ (List.mem_of_getElem? (i := 9) rfl)) (ty := .int) (by decide) rfl rfl (hb hby d5_34) (q := 37) rfl fun T68 h68 X68 e68 W68 => ?_
        have fw68 := F1.same W68
        have N68 := Fr.snoc X68 (Fr.nil n0) hge
        have kp_68 := (Keep.refl h0 [b]).wr W68 (Or.inl (List.mem_of_getElem? (i := 0) rfl))
        have f69 := (E0.wr W68)
        have f70 := (F0.other W68 (Or.inr (slot_ne (Or.inl (hw _ (List.mem_of_getElem? (i := 19) rfl))) (Or.inl (hw _ (List.mem_of_getElem? (i := 26) rfl))) (by decide) (t := (.array .long)) (t' := .int) (by decide) (by decide))))
        have f71 := (V0.other W68 (Ne.symm nba))
        exact g_retV X68 hx hret hlk (hb hby d5_37) ⟨rfl, N68, by rw [e68]; exact kp_68, by rw [e68]; exact f69, by rw [e68]; exact f70, by rw [e68, show own_tr3 t p0 p1 p2 = (1 : Int32) from by rw [own_tr3, if_neg hk2, if_neg hk1, if_pos hb23]]; exact fw68⟩ (Nat.le_of_ble_eq_true rfl) (Nat.le_of_ble_eq_true rfl)
      · have hk0 := hb23
        refine g_iinc X59 hx (hb hby d5_26) (x := (1 : Int32)) rfl (z := (0 : Int32)) (by decide) (L' := #[.val (.ref b), .val (.int t), .val (.ref ae), .val (.int (0 : Int32))]) rfl (q := 29) rfl ?_
        refine g_goto X59 hx (hb hby d5_29) (by decide) (q := 10) (by decide) ?_
        refine g_iloadN X59 hx (hb hby d5_10) (v := (0 : Int32)) rfl (q := 11) rfl ?_
        refine g_if_le X59 hx (hb hby d5_11) (by decide) (q := 32) (by decide) (q2 := 14) rfl (fun hb11 => ?_) (fun hb11 => absurd hb11 (by decide))
        refine g_aloadN X59 hx (hb hby d5_32) (v := (.ref b)) rfl rfl (q := 33) rfl ?_
        refine g_iloadN X59 hx (hb hby d5_33) (v := (0 : Int32)) rfl (q := 34) rfl ?_
        refine g_putF X59 hx hZ hown (hw _ (List.mem_of_getElem? (i := 25) rfl)) Via.refl e59 F1 E0 (Or.inl (hw _ (List.mem_of_getElem? (i := 26) rfl))) (hw _ (List.mem_of_getElem? (i := 9) rfl)) (ty := .int) (by decide) rfl rfl (hb hby d5_34) (q := 37) rfl fun T72 h72 X72 e72 W72 => ?_
        have fw72 := F1.same W72
        have N72 := Fr.snoc X72 (Fr.nil n0) hge
        have kp_72 := (Keep.refl h0 [b]).wr W72 (Or.inl (List.mem_of_getElem? (i := 0) rfl))
        have f73 := (E0.wr W72)
        have f74 := (F0.other W72 (Or.inr (slot_ne (Or.inl (hw _ (List.mem_of_getElem? (i := 19) rfl))) (Or.inl (hw _ (List.mem_of_getElem? (i := 26) rfl))) (by decide) (t := (.array .long)) (t' := .int) (by decide) (by decide))))
        have f75 := (V0.other W72 (Ne.symm nba))
        exact g_retV X72 hx hret hlk (hb hby d5_37) ⟨rfl, N72, by rw [e72]; exact kp_72, by rw [e72]; exact f73, by rw [e72]; exact f74, by rw [e72, show own_tr3 t p0 p1 p2 = (0 : Int32) from by rw [own_tr3, if_neg hk2, if_neg hk1, if_neg hk0]]; exact fw72⟩ (Nat.le_of_ble_eq_true rfl) (Nat.le_of_ble_eq_true rfl)
theorem d11_0 : decode prog_23_method_8_code 0 = .ok (.aload_n 2, 1) := by decide +kernel
theorem d11_1 : decode prog_23_method_8_code 1 = .ok (.iload_n 3, 1) := by decide +kernel
theorem d11_2 : decode prog_23_method_8_code 2 = .ok (.iconst 2, 1) := by decide +kernel
theorem d11_3 : decode prog_23_method_8_code 3 = .ok (.imul, 1) := by decide +kernel
theorem d11_4 : decode prog_23_method_8_code 4 = .ok (.laload, 1) := by decide +kernel
theorem d11_5 : decode prog_23_method_8_code 5 = .ok (.bipush 32, 2) := by decide +kernel
theorem d11_7 : decode prog_23_method_8_code 7 = .ok (.lushr, 1) := by decide +kernel
theorem d11_8 : decode prog_23_method_8_code 8 = .ok (.lload_n 0, 1) := by decide +kernel
theorem d11_9 : decode prog_23_method_8_code 9 = .ok (.lcmp, 1) := by decide +kernel
theorem d11_10 : decode prog_23_method_8_code 10 = .ok (.ifCond .gt 7, 3) := by decide +kernel
theorem d11_13 : decode prog_23_method_8_code 13 = .ok (.iconst 1, 1) := by decide +kernel
theorem d11_14 : decode prog_23_method_8_code 14 = .ok (.goto 4, 3) := by decide +kernel
theorem d11_17 : decode prog_23_method_8_code 17 = .ok (.iconst 0, 1) := by decide +kernel
theorem d11_18 : decode prog_23_method_8_code 18 = .ok (.ireturn, 1) := by decide +kernel
set_option maxRecDepth 65536 in
set_option maxHeartbeats 40000000 in
theorem rmL (l : Launch) (Z : State) (a0 : Array Value) (hw : ∀ d ∈ tables_1, d.before a0 Z = true) (j : Int64) (ae : Addr) (i z : Int32) (ev of : Int64) (f : Nat → Value) (h0 : Heap) (hz : i * (2 : Int32) = z) (hz0 : ¬ z < 0) (hz1 : z.toNatClampNeg < 32) (hev : f z.toNatClampNeg = .long ev) (hof : own_off ev = of) (V0 : Af Z h0 ae .long 32 f) (r : Int32) (hr : (if j < of then (0 : Int32) else 1) = r) :
    Con l Z h0 (⟨"com/example/newlyn/newlyn/storage/SegmentIndex", "lambda$floorPosition$0", "(J[JI)Z"⟩ : MethodName) prog_23_method_8_code 4 (some .boolean) ({ frames := 0, cells := 0, slots := 0, locals := 0 } : Room) #[(.long j), (.ref ae), (.int i)] (Pur (some (.int r)) h0) := by
  refine con_of (plainFor_of_name pn_1) (Ls := #[.val (.long j), .second, .val (.ref ae), .val (.int i)]) (fun m => by first | (simp [entryFrame, mkF, argsToLocals, Value.category]; done) | rfl) ?_
  intro p e s m below meth c s₁ hx hZ hby hml hret hlk hnm hown X0 e0
  refine g_aloadN X0 hx (hb hby d11_0) (v := (.ref ae)) rfl rfl (q := 1) rfl ?_
  refine g_iloadN X0 hx (hb hby d11_1) (v := i) rfl (q := 2) rfl ?_
  refine g_iconst X0 hx (hb hby d11_2) (n := (2 : Int32)) (by decide) (q := 3) rfl ?_
  refine g_imul X0 hx (hb hby d11_3) (z := z) hz (q := 4) rfl ?_
  refine g_laload X0 hx hZ e0 V0 hz0 hz1 (v := (.long ev)) hev (hb hby d11_4) (q := 5) rfl ?_
  refine g_bipush X0 hx (hb hby d11_5) (n := (32 : Int32)) (by decide) (q := 7) rfl ?_
  refine g_lushr X0 hx (hb hby d11_7) (z := of) hof (q := 8) rfl ?_
  refine g_lloadN X0 hx (hb hby d11_8) (v := j) rfl (q := 9) rfl ?_
  refine g_lcmp X0 hx (hb hby d11_9) (z := (lcmpW of j)) rfl (q := 10) rfl ?_
  refine g_if_gt X0 hx (hb hby d11_10) (by decide) (q := 17) (by decide) (q2 := 13) rfl (fun hb10 => ?_) (fun hb10 => ?_)
  · refine g_iconst X0 hx (hb hby d11_17) (n := (0 : Int32)) (by decide) (q := 18) rfl ?_
    exact g_retB X0 hx hret hlk (hb hby d11_18) (by decide) ⟨(by rw [← hr, if_pos ((lw_gt _ _).mp hb10)]), rfl, e0⟩ (Nat.le_of_ble_eq_true rfl) (Nat.le_of_ble_eq_true rfl)
  · refine g_iconst X0 hx (hb hby d11_13) (n := (1 : Int32)) (by decide) (q := 14) rfl ?_
    refine g_goto X0 hx (hb hby d11_14) (by decide) (q := 18) (by decide) ?_
    exact g_retB X0 hx hret hlk (hb hby d11_18) (by decide) ⟨(by rw [← hr, if_neg (fun q => hb10 ((lw_gt _ _).mpr q))]), rfl, e0⟩ (Nat.le_of_ble_eq_true rfl) (Nat.le_of_ble_eq_true rfl)
theorem d7_0 : decode prog_23_method_6_code 0 = .ok (.aload_n 0, 1) := by decide +kernel
theorem d7_1 : decode prog_23_method_6_code 1 = .ok (.getfield 13, 3) := by decide +kernel
theorem d7_4 : decode prog_23_method_6_code 4 = .ok (.istore_n 2, 1) := by decide +kernel
theorem d7_5 : decode prog_23_method_6_code 5 = .ok (.aload_n 0, 1) := by decide +kernel
theorem d7_6 : decode prog_23_method_6_code 6 = .ok (.getfield 9, 3) := by decide +kernel
theorem d7_9 : decode prog_23_method_6_code 9 = .ok (.astore_n 3, 1) := by decide +kernel
theorem d7_10 : decode prog_23_method_6_code 10 = .ok (.iconst 0, 1) := by decide +kernel
theorem d7_11 : decode prog_23_method_6_code 11 = .ok (.istore 4, 2) := by decide +kernel
theorem d7_13 : decode prog_23_method_6_code 13 = .ok (.iload_n 2, 1) := by decide +kernel
theorem d7_14 : decode prog_23_method_6_code 14 = .ok (.iconst 1, 1) := by decide +kernel
theorem d7_15 : decode prog_23_method_6_code 15 = .ok (.isub, 1) := by decide +kernel
theorem d7_16 : decode prog_23_method_6_code 16 = .ok (.istore 5, 2) := by decide +kernel
theorem d7_18 : decode prog_23_method_6_code 18 = .ok (.iconst 0, 1) := by decide +kernel
theorem d7_19 : decode prog_23_method_6_code 19 = .ok (.istore 6, 2) := by decide +kernel
theorem d7_21 : decode prog_23_method_6_code 21 = .ok (.iload 4, 2) := by decide +kernel
theorem d7_23 : decode prog_23_method_6_code 23 = .ok (.iload 5, 2) := by decide +kernel
theorem d7_25 : decode prog_23_method_6_code 25 = .ok (.if_icmp .gt 51, 3) := by decide +kernel
theorem d7_76 : decode prog_23_method_6_code 76 = .ok (.iload 6, 2) := by decide +kernel
theorem d7_78 : decode prog_23_method_6_code 78 = .ok (.ireturn, 1) := by decide +kernel
set_option maxRecDepth 65536 in
set_option maxHeartbeats 40000000 in
theorem rmLP00 (l : Launch) (Z : State) (a0 : Array Value) (hw : ∀ d ∈ tables_1, d.before a0 Z = true) (b ae lb : Addr) (f : Nat → Value) (h0 : Heap) (E0 : Exa Z h0 b "com/example/newlyn/newlyn/storage/SegmentIndex") (F0 : Fld Z h0 b "com/example/newlyn/newlyn/storage/SegmentIndex" "entries" "[J" (.ref ae)) (F1 : Fld Z h0 b "com/example/newlyn/newlyn/storage/SegmentIndex" "count" "I" (.int (0 : Int32))) (V0 : Af Z h0 ae .long 32 f) (L0 : Lob Z h0 lb (0 : Int64)) :
    ConH l Z h0 (⟨"com/example/newlyn/newlyn/storage/SegmentIndex", "lastPosition", "(Lcom/example/newlyn/newlyn/storage/SegmentIndex$EntryTest;)I"⟩ : MethodName) prog_23_method_6_code 8 (some .int) ({ frames := 2, cells := 0, slots := 0, locals := 29 } : Room) #[(.ref b), (.ref lb)] (Pur (some (.int (0 : Int32))) h0) := by
  refine con_ofH (plainFor_of_name pn_1) (Ls := #[.val (.ref b), .val (.ref lb), .unset, .unset, .unset, .unset, .unset, .unset]) (fun m => by first | (simp [entryFrame, mkF, argsToLocals, Value.category]; done) | rfl) ?_
  intro p e s m below meth c s₁ hx hH hby hml hret hlk hnm hown hnamed X0 e0
  have hZ := hH.wide
  refine g_aloadN X0 hx (hb hby d7_0) (v := (.ref b)) rfl rfl (q := 1) rfl ?_
  refine g_getF X0 hx hZ hown (hw _ (List.mem_of_getElem? (i := 25) rfl)) Via.refl e0 F1 (hb hby d7_1) (q := 4) rfl fun T76 X76 e76 => ?_
  refine g_istoreN X76 hx (hb hby d7_4) (L' := #[.val (.ref b), .val (.ref lb), .val (.int (0 : Int32)), .unset, .unset, .unset, .unset, .unset]) rfl (q := 5) rfl ?_
  refine g_aloadN X76 hx (hb hby d7_5) (v := (.ref b)) rfl rfl (q := 6) rfl ?_
  refine g_getF X76 hx hZ hown (hw _ (List.mem_of_getElem? (i := 18) rfl)) Via.refl e76 F0 (hb hby d7_6) (q := 9) rfl fun T77 X77 e77 => ?_
  refine g_astoreN X77 hx (hb hby d7_9) rfl (L' := #[.val (.ref b), .val (.ref lb), .val (.int (0 : Int32)), .val (.ref ae), .unset, .unset, .unset, .unset]) rfl (q := 10) rfl ?_
  refine g_iconst X77 hx (hb hby d7_10) (n := (0 : Int32)) (by decide) (q := 11) rfl ?_
  refine g_istore X77 hx (hb hby d7_11) (L' := #[.val (.ref b), .val (.ref lb), .val (.int (0 : Int32)), .val (.ref ae), .val (.int (0 : Int32)), .unset, .unset, .unset]) rfl (q := 13) rfl ?_
  refine g_iloadN X77 hx (hb hby d7_13) (v := (0 : Int32)) rfl (q := 14) rfl ?_
  refine g_iconst X77 hx (hb hby d7_14) (n := (1 : Int32)) (by decide) (q := 15) rfl ?_
  refine g_isub X77 hx (hb hby d7_15) (z := (-1 : Int32)) (by decide) (q := 16) rfl ?_
  refine g_istore X77 hx (hb hby d7_16) (L' := #[.val (.ref b), .val (.ref lb), .val (.int (0 : Int32)), .val (.ref ae), .val (.int (0 : Int32)), .val (.int (-1 : Int32)), .unset, .unset]) rfl (q := 18) rfl ?_
  refine g_iconst X77 hx (hb hby d7_18) (n := (0 : Int32)) (by decide) (q := 19) rfl ?_
  refine g_istore X77 hx (hb hby d7_19) (L' := #[.val (.ref b), .val (.ref lb), .val (.int (0 : Int32)), .val (.ref ae), .val (.int (0 : Int32)), .val (.int (-1 : Int32)), .val (.int (0 : Int32)), .unset]) rfl (q := 21) rfl ?_
  refine g_iload X77 hx (hb hby d7_21) (v := (0 : Int32)) rfl (q := 23) rfl ?_
  refine g_iload X77 hx (hb hby d7_23) (v := (-1 : Int32)) rfl (q := 25) rfl ?_
  refine g_icmp_gt X77 hx (hb hby d7_25) (by decide) (q := 76) (by decide) (q2 := 28) rfl (fun hb25 => ?_) (fun hb25 => absurd hb25 (by decide))
  refine g_iload X77 hx (hb hby d7_76) (v := (0 : Int32)) rfl (q := 78) rfl ?_
  exact g_retI X77 hx hret hlk (hb hby d7_78) ⟨rfl, rfl, e77⟩ (Nat.le_of_ble_eq_true rfl) (Nat.le_of_ble_eq_true rfl)
theorem d6_0 : decode prog_23_method_4_code 0 = .ok (.aload_n 0, 1) := by decide +kernel
theorem d6_1 : decode prog_23_method_4_code 1 = .ok (.lload_n 1, 1) := by decide +kernel
theorem d6_2 : decode prog_23_method_4_code 2 = .ok (.invokedynamic 23, 5) := by decide +kernel
theorem d6_7 : decode prog_23_method_4_code 7 = .ok (.invokevirtual 27, 3) := by decide +kernel
theorem d6_10 : decode prog_23_method_4_code 10 = .ok (.ireturn, 1) := by decide +kernel
set_option maxRecDepth 65536 in
set_option maxHeartbeats 40000000 in
theorem rmF00 (l : Launch) (Z : State) (a0 : Array Value) (hw : ∀ d ∈ tables_1, d.before a0 Z = true) (b ae : Addr) (f : Nat → Value) (h0 : Heap) (E0 : Exa Z h0 b "com/example/newlyn/newlyn/storage/SegmentIndex") (F0 : Fld Z h0 b "com/example/newlyn/newlyn/storage/SegmentIndex" "entries" "[J" (.ref ae)) (F1 : Fld Z h0 b "com/example/newlyn/newlyn/storage/SegmentIndex" "count" "I" (.int (0 : Int32))) (V0 : Af Z h0 ae .long 32 f) :
    ConH l Z h0 (⟨"com/example/newlyn/newlyn/storage/SegmentIndex", "floorPosition", "(J)I"⟩ : MethodName) prog_23_method_4_code 3 (some .int) ({ frames := 3, cells := 1, slots := 1, locals := 3075 } : Room) #[(.ref b), (.long (0 : Int64))] (fun v h L => v = some (.int (0 : Int32)) ∧ L = [] ∧ Ext h0 h) := by
  refine con_ofH (plainFor_of_name pn_1) (Ls := #[.val (.ref b), .val (.long (0 : Int64)), .second]) (fun m => by first | (simp [entryFrame, mkF, argsToLocals, Value.category]; done) | rfl) ?_
  intro p e s m below meth c s₁ hx hH hby hml hret hlk hnm hown hnamed X0 e0
  have hZ := hH.wide
  refine g_aloadN X0 hx (hb hby d6_0) (v := (.ref b)) rfl rfl (q := 1) rfl ?_
  refine g_lloadN X0 hx (hb hby d6_1) (v := (0 : Int64)) rfl (q := 2) rfl ?_
  refine g_lambda X0 hx hH hnamed (hw _ (List.mem_of_getElem? (i := 32) rfl)) (hw _ (List.mem_of_getElem? (i := 35) rfl)) e0 (by exact hml.symm) (hb hby d6_2) (Nat.le_of_ble_eq_true rfl) (Nat.le_of_ble_eq_true rfl) (Nat.le_of_ble_eq_true rfl) fun T78 h78 lb g78 X78 e78 E78 L78 => ?_
  have f79 := (E0.ext E78)
  have f80 := (F0.ext E78)
  have f81 := (F1.ext E78)
  have f82 := (V0.ext E78)
  refine g_callPH X78 hx hH hown (hw _ (List.mem_of_getElem? (i := 36) rfl)) (hw _ (List.mem_of_getElem? (i := 37) rfl)) (hw _ (List.mem_of_getElem? (i := 38) rfl)) (hw _ (List.mem_of_getElem? (i := 9) rfl)) (hw _ (List.mem_of_getElem? (i := 39) rfl)) (hw _ (List.mem_of_getElem? (i := 10) rfl)) (by decide) e78 f79 (rmLP00 l Z a0 hw b ae lb f h78 f79 f80 f81 f82 L78) (by exact hml.symm) (argsL := [(.ref lb)]) (rest := []) rfl rfl pd_1 rfl (Nat.le_of_ble_eq_true rfl) (Nat.le_of_ble_eq_true rfl) (Nat.le_of_ble_eq_true rfl) (Nat.le_of_ble_eq_true rfl) (hb hby d6_7) (q := 10) rfl (fun v83 T83 L83 X83 hQ83 => ?_)
  obtain ⟨rfl, rfl, e83⟩ := hQ83
  show Go p e below _ (T83.setTop (mkF m 10 #[.val (.ref b), .val (.long (0 : Int64)), .second] [(.int (0 : Int32))]))
  exact g_retI X83 hx hret hlk (hb hby d6_10) ⟨rfl, by simp, by rw [e83]; exact E78⟩ (Nat.le_of_ble_eq_true rfl) (Nat.le_of_ble_eq_true rfl)
set_option maxRecDepth 65536 in
set_option maxHeartbeats 40000000 in
theorem rmLP01 (l : Launch) (Z : State) (a0 : Array Value) (hw : ∀ d ∈ tables_1, d.before a0 Z = true) (b ae lb : Addr) (f : Nat → Value) (h0 : Heap) (E0 : Exa Z h0 b "com/example/newlyn/newlyn/storage/SegmentIndex") (F0 : Fld Z h0 b "com/example/newlyn/newlyn/storage/SegmentIndex" "entries" "[J" (.ref ae)) (F1 : Fld Z h0 b "com/example/newlyn/newlyn/storage/SegmentIndex" "count" "I" (.int (0 : Int32))) (V0 : Af Z h0 ae .long 32 f) (L0 : Lob Z h0 lb (1 : Int64)) :
    ConH l Z h0 (⟨"com/example/newlyn/newlyn/storage/SegmentIndex", "lastPosition", "(Lcom/example/newlyn/newlyn/storage/SegmentIndex$EntryTest;)I"⟩ : MethodName) prog_23_method_6_code 8 (some .int) ({ frames := 2, cells := 0, slots := 0, locals := 29 } : Room) #[(.ref b), (.ref lb)] (Pur (some (.int (0 : Int32))) h0) := by
  refine con_ofH (plainFor_of_name pn_1) (Ls := #[.val (.ref b), .val (.ref lb), .unset, .unset, .unset, .unset, .unset, .unset]) (fun m => by first | (simp [entryFrame, mkF, argsToLocals, Value.category]; done) | rfl) ?_
  intro p e s m below meth c s₁ hx hH hby hml hret hlk hnm hown hnamed X0 e0
  have hZ := hH.wide
  refine g_aloadN X0 hx (hb hby d7_0) (v := (.ref b)) rfl rfl (q := 1) rfl ?_
  refine g_getF X0 hx hZ hown (hw _ (List.mem_of_getElem? (i := 25) rfl)) Via.refl e0 F1 (hb hby d7_1) (q := 4) rfl fun T84 X84 e84 => ?_
  refine g_istoreN X84 hx (hb hby d7_4) (L' := #[.val (.ref b), .val (.ref lb), .val (.int (0 : Int32)), .unset, .unset, .unset, .unset, .unset]) rfl (q := 5) rfl ?_
  refine g_aloadN X84 hx (hb hby d7_5) (v := (.ref b)) rfl rfl (q := 6) rfl ?_
  refine g_getF X84 hx hZ hown (hw _ (List.mem_of_getElem? (i := 18) rfl)) Via.refl e84 F0 (hb hby d7_6) (q := 9) rfl fun T85 X85 e85 => ?_
  refine g_astoreN X85 hx (hb hby d7_9) rfl (L' := #[.val (.ref b), .val (.ref lb), .val (.int (0 : Int32)), .val (.ref ae), .unset, .unset, .unset, .unset]) rfl (q := 10) rfl ?_
  refine g_iconst X85 hx (hb hby d7_10) (n := (0 : Int32)) (by decide) (q := 11) rfl ?_
  refine g_istore X85 hx (hb hby d7_11) (L' := #[.val (.ref b), .val (.ref lb), .val (.int (0 : Int32)), .val (.ref ae), .val (.int (0 : Int32)), .unset, .unset, .unset]) rfl (q := 13) rfl ?_
  refine g_iloadN X85 hx (hb hby d7_13) (v := (0 : Int32)) rfl (q := 14) rfl ?_
  refine g_iconst X85 hx (hb hby d7_14) (n := (1 : Int32)) (by decide) (q := 15) rfl ?_
  refine g_isub X85 hx (hb hby d7_15) (z := (-1 : Int32)) (by decide) (q := 16) rfl ?_
  refine g_istore X85 hx (hb hby d7_16) (L' := #[.val (.ref b), .val (.ref lb), .val (.int (0 : Int32)), .val (.ref ae), .val (.int (0 : Int32)), .val (.int (-1 : Int32)), .unset, .unset]) rfl (q := 18) rfl ?_
  refine g_iconst X85 hx (hb hby d7_18) (n := (0 : Int32)) (by decide) (q := 19) rfl ?_
  refine g_istore X85 hx (hb hby d7_19) (L' := #[.val (.ref b), .val (.ref lb), .val (.int (0 : Int32)), .val (.ref ae), .val (.int (0 : Int32)), .val (.int (-1 : Int32)), .val (.int (0 : Int32)), .unset]) rfl (q := 21) rfl ?_
  refine g_iload X85 hx (hb hby d7_21) (v := (0 : Int32)) rfl (q := 23) rfl ?_
  refine g_iload X85 hx (hb hby d7_23) (v := (-1 : Int32)) rfl (q := 25) rfl ?_
  refine g_icmp_gt X85 hx (hb hby d7_25) (by decide) (q := 76) (by decide) (q2 := 28) rfl (fun hb25 => ?_) (fun hb25 => absurd hb25 (by decide))
  refine g_iload X85 hx (hb hby d7_76) (v := (0 : Int32)) rfl (q := 78) rfl ?_
  exact g_retI X85 hx hret hlk (hb hby d7_78) ⟨rfl, rfl, e85⟩ (Nat.le_of_ble_eq_true rfl) (Nat.le_of_ble_eq_true rfl)
set_option maxRecDepth 65536 in
set_option maxHeartbeats 40000000 in
theorem rmF01 (l : Launch) (Z : State) (a0 : Array Value) (hw : ∀ d ∈ tables_1, d.before a0 Z = true) (b ae : Addr) (f : Nat → Value) (h0 : Heap) (E0 : Exa Z h0 b "com/example/newlyn/newlyn/storage/SegmentIndex") (F0 : Fld Z h0 b "com/example/newlyn/newlyn/storage/SegmentIndex" "entries" "[J" (.ref ae)) (F1 : Fld Z h0 b "com/example/newlyn/newlyn/storage/SegmentIndex" "count" "I" (.int (0 : Int32))) (V0 : Af Z h0 ae .long 32 f) :
    ConH l Z h0 (⟨"com/example/newlyn/newlyn/storage/SegmentIndex", "floorPosition", "(J)I"⟩ : MethodName) prog_23_method_4_code 3 (some .int) ({ frames := 3, cells := 1, slots := 1, locals := 3075 } : Room) #[(.ref b), (.long (1 : Int64))] (fun v h L => v = some (.int (0 : Int32)) ∧ L = [] ∧ Ext h0 h) := by
  refine con_ofH (plainFor_of_name pn_1) (Ls := #[.val (.ref b), .val (.long (1 : Int64)), .second]) (fun m => by first | (simp [entryFrame, mkF, argsToLocals, Value.category]; done) | rfl) ?_
  intro p e s m below meth c s₁ hx hH hby hml hret hlk hnm hown hnamed X0 e0
  have hZ := hH.wide
  refine g_aloadN X0 hx (hb hby d6_0) (v := (.ref b)) rfl rfl (q := 1) rfl ?_
  refine g_lloadN X0 hx (hb hby d6_1) (v := (1 : Int64)) rfl (q := 2) rfl ?_
  refine g_lambda X0 hx hH hnamed (hw _ (List.mem_of_getElem? (i := 32) rfl)) (hw _ (List.mem_of_getElem? (i := 35) rfl)) e0 (by exact hml.symm) (hb hby d6_2) (Nat.le_of_ble_eq_true rfl) (Nat.le_of_ble_eq_true rfl) (Nat.le_of_ble_eq_true rfl) fun T86 h86 lb g86 X86 e86 E86 L86 => ?_
  have f87 := (E0.ext E86)
  have f88 := (F0.ext E86)
  have f89 := (F1.ext E86)
  have f90 := (V0.ext E86)
  refine g_callPH X86 hx hH hown (hw _ (List.mem_of_getElem? (i := 36) rfl)) (hw _ (List.mem_of_getElem? (i := 37) rfl)) (hw _ (List.mem_of_getElem? (i := 38) rfl)) (hw _ (List.mem_of_getElem? (i := 9) rfl)) (hw _ (List.mem_of_getElem? (i := 39) rfl)) (hw _ (List.mem_of_getElem? (i := 10) rfl)) (by decide) e86 f87 (rmLP01 l Z a0 hw b ae lb f h86 f87 f88 f89 f90 L86) (by exact hml.symm) (argsL := [(.ref lb)]) (rest := []) rfl rfl pd_1 rfl (Nat.le_of_ble_eq_true rfl) (Nat.le_of_ble_eq_true rfl) (Nat.le_of_ble_eq_true rfl) (Nat.le_of_ble_eq_true rfl) (hb hby d6_7) (q := 10) rfl (fun v91 T91 L91 X91 hQ91 => ?_)
  obtain ⟨rfl, rfl, e91⟩ := hQ91
  show Go p e below _ (T91.setTop (mkF m 10 #[.val (.ref b), .val (.long (1 : Int64)), .second] [(.int (0 : Int32))]))
  exact g_retI X91 hx hret hlk (hb hby d6_10) ⟨rfl, by simp, by rw [e91]; exact E86⟩ (Nat.le_of_ble_eq_true rfl) (Nat.le_of_ble_eq_true rfl)
set_option maxRecDepth 65536 in
set_option maxHeartbeats 40000000 in
theorem rmLP02 (l : Launch) (Z : State) (a0 : Array Value) (hw : ∀ d ∈ tables_1, d.before a0 Z = true) (b ae lb : Addr) (f : Nat → Value) (h0 : Heap) (E0 : Exa Z h0 b "com/example/newlyn/newlyn/storage/SegmentIndex") (F0 : Fld Z h0 b "com/example/newlyn/newlyn/storage/SegmentIndex" "entries" "[J" (.ref ae)) (F1 : Fld Z h0 b "com/example/newlyn/newlyn/storage/SegmentIndex" "count" "I" (.int (0 : Int32))) (V0 : Af Z h0 ae .long 32 f) (L0 : Lob Z h0 lb (2 : Int64)) :
    ConH l Z h0 (⟨"com/example/newlyn/newlyn/storage/SegmentIndex", "lastPosition", "(Lcom/example/newlyn/newlyn/storage/SegmentIndex$EntryTest;)I"⟩ : MethodName) prog_23_method_6_code 8 (some .int) ({ frames := 2, cells := 0, slots := 0, locals := 29 } : Room) #[(.ref b), (.ref lb)] (Pur (some (.int (0 : Int32))) h0) := by
  refine con_ofH (plainFor_of_name pn_1) (Ls := #[.val (.ref b), .val (.ref lb), .unset, .unset, .unset, .unset, .unset, .unset]) (fun m => by first | (simp [entryFrame, mkF, argsToLocals, Value.category]; done) | rfl) ?_
  intro p e s m below meth c s₁ hx hH hby hml hret hlk hnm hown hnamed X0 e0
  have hZ := hH.wide
  refine g_aloadN X0 hx (hb hby d7_0) (v := (.ref b)) rfl rfl (q := 1) rfl ?_
  refine g_getF X0 hx hZ hown (hw _ (List.mem_of_getElem? (i := 25) rfl)) Via.refl e0 F1 (hb hby d7_1) (q := 4) rfl fun T92 X92 e92 => ?_
  refine g_istoreN X92 hx (hb hby d7_4) (L' := #[.val (.ref b), .val (.ref lb), .val (.int (0 : Int32)), .unset, .unset, .unset, .unset, .unset]) rfl (q := 5) rfl ?_
  refine g_aloadN X92 hx (hb hby d7_5) (v := (.ref b)) rfl rfl (q := 6) rfl ?_
  refine g_getF X92 hx hZ hown (hw _ (List.mem_of_getElem? (i := 18) rfl)) Via.refl e92 F0 (hb hby d7_6) (q := 9) rfl fun T93 X93 e93 => ?_
  refine g_astoreN X93 hx (hb hby d7_9) rfl (L' := #[.val (.ref b), .val (.ref lb), .val (.int (0 : Int32)), .val (.ref ae), .unset, .unset, .unset, .unset]) rfl (q := 10) rfl ?_
  refine g_iconst X93 hx (hb hby d7_10) (n := (0 : Int32)) (by decide) (q := 11) rfl ?_
  refine g_istore X93 hx (hb hby d7_11) (L' := #[.val (.ref b), .val (.ref lb), .val (.int (0 : Int32)), .val (.ref ae), .val (.int (0 : Int32)), .unset, .unset, .unset]) rfl (q := 13) rfl ?_
  refine g_iloadN X93 hx (hb hby d7_13) (v := (0 : Int32)) rfl (q := 14) rfl ?_
  refine g_iconst X93 hx (hb hby d7_14) (n := (1 : Int32)) (by decide) (q := 15) rfl ?_
  refine g_isub X93 hx (hb hby d7_15) (z := (-1 : Int32)) (by decide) (q := 16) rfl ?_
  refine g_istore X93 hx (hb hby d7_16) (L' := #[.val (.ref b), .val (.ref lb), .val (.int (0 : Int32)), .val (.ref ae), .val (.int (0 : Int32)), .val (.int (-1 : Int32)), .unset, .unset]) rfl (q := 18) rfl ?_
  refine g_iconst X93 hx (hb hby d7_18) (n := (0 : Int32)) (by decide) (q := 19) rfl ?_
  refine g_istore X93 hx (hb hby d7_19) (L' := #[.val (.ref b), .val (.ref lb), .val (.int (0 : Int32)), .val (.ref ae), .val (.int (0 : Int32)), .val (.int (-1 : Int32)), .val (.int (0 : Int32)), .unset]) rfl (q := 21) rfl ?_
  refine g_iload X93 hx (hb hby d7_21) (v := (0 : Int32)) rfl (q := 23) rfl ?_
  refine g_iload X93 hx (hb hby d7_23) (v := (-1 : Int32)) rfl (q := 25) rfl ?_
  refine g_icmp_gt X93 hx (hb hby d7_25) (by decide) (q := 76) (by decide) (q2 := 28) rfl (fun hb25 => ?_) (fun hb25 => absurd hb25 (by decide))
  refine g_iload X93 hx (hb hby d7_76) (v := (0 : Int32)) rfl (q := 78) rfl ?_
  exact g_retI X93 hx hret hlk (hb hby d7_78) ⟨rfl, rfl, e93⟩ (Nat.le_of_ble_eq_true rfl) (Nat.le_of_ble_eq_true rfl)
set_option maxRecDepth 65536 in
set_option maxHeartbeats 40000000 in
theorem rmF02 (l : Launch) (Z : State) (a0 : Array Value) (hw : ∀ d ∈ tables_1, d.before a0 Z = true) (b ae : Addr) (f : Nat → Value) (h0 : Heap) (E0 : Exa Z h0 b "com/example/newlyn/newlyn/storage/SegmentIndex") (F0 : Fld Z h0 b "com/example/newlyn/newlyn/storage/SegmentIndex" "entries" "[J" (.ref ae)) (F1 : Fld Z h0 b "com/example/newlyn/newlyn/storage/SegmentIndex" "count" "I" (.int (0 : Int32))) (V0 : Af Z h0 ae .long 32 f) :
    ConH l Z h0 (⟨"com/example/newlyn/newlyn/storage/SegmentIndex", "floorPosition", "(J)I"⟩ : MethodName) prog_23_method_4_code 3 (some .int) ({ frames := 3, cells := 1, slots := 1, locals := 3075 } : Room) #[(.ref b), (.long (2 : Int64))] (fun v h L => v = some (.int (0 : Int32)) ∧ L = [] ∧ Ext h0 h) := by
  refine con_ofH (plainFor_of_name pn_1) (Ls := #[.val (.ref b), .val (.long (2 : Int64)), .second]) (fun m => by first | (simp [entryFrame, mkF, argsToLocals, Value.category]; done) | rfl) ?_
  intro p e s m below meth c s₁ hx hH hby hml hret hlk hnm hown hnamed X0 e0
  have hZ := hH.wide
  refine g_aloadN X0 hx (hb hby d6_0) (v := (.ref b)) rfl rfl (q := 1) rfl ?_
  refine g_lloadN X0 hx (hb hby d6_1) (v := (2 : Int64)) rfl (q := 2) rfl ?_
  refine g_lambda X0 hx hH hnamed (hw _ (List.mem_of_getElem? (i := 32) rfl)) (hw _ (List.mem_of_getElem? (i := 35) rfl)) e0 (by exact hml.symm) (hb hby d6_2) (Nat.le_of_ble_eq_true rfl) (Nat.le_of_ble_eq_true rfl) (Nat.le_of_ble_eq_true rfl) fun T94 h94 lb g94 X94 e94 E94 L94 => ?_
  have f95 := (E0.ext E94)
  have f96 := (F0.ext E94)
  have f97 := (F1.ext E94)
  have f98 := (V0.ext E94)
  refine g_callPH X94 hx hH hown (hw _ (List.mem_of_getElem? (i := 36) rfl)) (hw _ (List.mem_of_getElem? (i := 37) rfl)) (hw _ (List.mem_of_getElem? (i := 38) rfl)) (hw _ (List.mem_of_getElem? (i := 9) rfl)) (hw _ (List.mem_of_getElem? (i := 39) rfl)) (hw _ (List.mem_of_getElem? (i := 10) rfl)) (by decide) e94 f95 (rmLP02 l Z a0 hw b ae lb f h94 f95 f96 f97 f98 L94) (by exact hml.symm) (argsL := [(.ref lb)]) (rest := []) rfl rfl pd_1 rfl (Nat.le_of_ble_eq_true rfl) (Nat.le_of_ble_eq_true rfl) (Nat.le_of_ble_eq_true rfl) (Nat.le_of_ble_eq_true rfl) (hb hby d6_7) (q := 10) rfl (fun v99 T99 L99 X99 hQ99 => ?_)
  obtain ⟨rfl, rfl, e99⟩ := hQ99
  show Go p e below _ (T99.setTop (mkF m 10 #[.val (.ref b), .val (.long (2 : Int64)), .second] [(.int (0 : Int32))]))
  exact g_retI X99 hx hret hlk (hb hby d6_10) ⟨rfl, by simp, by rw [e99]; exact E94⟩ (Nat.le_of_ble_eq_true rfl) (Nat.le_of_ble_eq_true rfl)
theorem d7_28 : decode prog_23_method_6_code 28 = .ok (.iload 4, 2) := by decide +kernel
theorem d7_30 : decode prog_23_method_6_code 30 = .ok (.iload 5, 2) := by decide +kernel
theorem d7_32 : decode prog_23_method_6_code 32 = .ok (.iadd, 1) := by decide +kernel
theorem d7_33 : decode prog_23_method_6_code 33 = .ok (.iconst 1, 1) := by decide +kernel
theorem d7_34 : decode prog_23_method_6_code 34 = .ok (.iushr, 1) := by decide +kernel
theorem d7_35 : decode prog_23_method_6_code 35 = .ok (.istore 7, 2) := by decide +kernel
theorem d7_37 : decode prog_23_method_6_code 37 = .ok (.aload_n 1, 1) := by decide +kernel
theorem d7_38 : decode prog_23_method_6_code 38 = .ok (.aload_n 3, 1) := by decide +kernel
theorem d7_39 : decode prog_23_method_6_code 39 = .ok (.iload 7, 2) := by decide +kernel
theorem d7_41 : decode prog_23_method_6_code 41 = .ok (.invokeinterface 32 3, 5) := by decide +kernel
theorem d7_46 : decode prog_23_method_6_code 46 = .ok (.ifCond .eq 21, 3) := by decide +kernel
theorem d7_49 : decode prog_23_method_6_code 49 = .ok (.aload_n 3, 1) := by decide +kernel
theorem d7_50 : decode prog_23_method_6_code 50 = .ok (.iload 7, 2) := by decide +kernel
theorem d7_52 : decode prog_23_method_6_code 52 = .ok (.iconst 2, 1) := by decide +kernel
theorem d7_53 : decode prog_23_method_6_code 53 = .ok (.imul, 1) := by decide +kernel
theorem d7_54 : decode prog_23_method_6_code 54 = .ok (.laload, 1) := by decide +kernel
theorem d7_55 : decode prog_23_method_6_code 55 = .ok (.l2i, 1) := by decide +kernel
theorem d7_56 : decode prog_23_method_6_code 56 = .ok (.istore 6, 2) := by decide +kernel
theorem d7_58 : decode prog_23_method_6_code 58 = .ok (.iload 7, 2) := by decide +kernel
theorem d7_60 : decode prog_23_method_6_code 60 = .ok (.iconst 1, 1) := by decide +kernel
theorem d7_61 : decode prog_23_method_6_code 61 = .ok (.iadd, 1) := by decide +kernel
theorem d7_62 : decode prog_23_method_6_code 62 = .ok (.istore 4, 2) := by decide +kernel
theorem d7_64 : decode prog_23_method_6_code 64 = .ok (.goto 9, 3) := by decide +kernel
theorem d7_73 : decode prog_23_method_6_code 73 = .ok (.goto (-52), 3) := by decide +kernel
set_option maxRecDepth 65536 in
set_option maxHeartbeats 40000000 in
theorem rmLP10 (l : Launch) (Z : State) (a0 : Array Value) (hw : ∀ d ∈ tables_1, d.before a0 Z = true) (b ae lb : Addr) (ev0 : Int64) (p0 : Int32) (f : Nat → Value) (h0 : Heap) (E0 : Exa Z h0 b "com/example/newlyn/newlyn/storage/SegmentIndex") (F0 : Fld Z h0 b "com/example/newlyn/newlyn/storage/SegmentIndex" "entries" "[J" (.ref ae)) (F1 : Fld Z h0 b "com/example/newlyn/newlyn/storage/SegmentIndex" "count" "I" (.int (1 : Int32))) (V0 : Af Z h0 ae .long 32 f) (L0 : Lob Z h0 lb (0 : Int64)) (q0 : f (0 : Int32).toNatClampNeg = .long ev0) (r0 : ev0.toInt32 = p0) (o0 : own_off ev0 = (0 : Int64)) :
    ConH l Z h0 (⟨"com/example/newlyn/newlyn/storage/SegmentIndex", "lastPosition", "(Lcom/example/newlyn/newlyn/storage/SegmentIndex$EntryTest;)I"⟩ : MethodName) prog_23_method_6_code 8 (some .int) ({ frames := 2, cells := 0, slots := 0, locals := 29 } : Room) #[(.ref b), (.ref lb)] (Pur (some (.int p0)) h0) := by
  refine con_ofH (plainFor_of_name pn_1) (Ls := #[.val (.ref b), .val (.ref lb), .unset, .unset, .unset, .unset, .unset, .unset]) (fun m => by first | (simp [entryFrame, mkF, argsToLocals, Value.category]; done) | rfl) ?_
  intro p e s m below meth c s₁ hx hH hby hml hret hlk hnm hown hnamed X0 e0
  have hZ := hH.wide
  refine g_aloadN X0 hx (hb hby d7_0) (v := (.ref b)) rfl rfl (q := 1) rfl ?_
  refine g_getF X0 hx hZ hown (hw _ (List.mem_of_getElem? (i := 25) rfl)) Via.refl e0 F1 (hb hby d7_1) (q := 4) rfl fun T100 X100 e100 => ?_
  refine g_istoreN X100 hx (hb hby d7_4) (L' := #[.val (.ref b), .val (.ref lb), .val (.int (1 : Int32)), .unset, .unset, .unset, .unset, .unset]) rfl (q := 5) rfl ?_
  refine g_aloadN X100 hx (hb hby d7_5) (v := (.ref b)) rfl rfl (q := 6) rfl ?_
  refine g_getF X100 hx hZ hown (hw _ (List.mem_of_getElem? (i := 18) rfl)) Via.refl e100 F0 (hb hby d7_6) (q := 9) rfl fun T101 X101 e101 => ?_
  refine g_astoreN X101 hx (hb hby d7_9) rfl (L' := #[.val (.ref b), .val (.ref lb), .val (.int (1 : Int32)), .val (.ref ae), .unset, .unset, .unset, .unset]) rfl (q := 10) rfl ?_
  refine g_iconst X101 hx (hb hby d7_10) (n := (0 : Int32)) (by decide) (q := 11) rfl ?_
  refine g_istore X101 hx (hb hby d7_11) (L' := #[.val (.ref b), .val (.ref lb), .val (.int (1 : Int32)), .val (.ref ae), .val (.int (0 : Int32)), .unset, .unset, .unset]) rfl (q := 13) rfl ?_
  refine g_iloadN X101 hx (hb hby d7_13) (v := (1 : Int32)) rfl (q := 14) rfl ?_
  refine g_iconst X101 hx (hb hby d7_14) (n := (1 : Int32)) (by decide) (q := 15) rfl ?_
  refine g_isub X101 hx (hb hby d7_15) (z := (0 : Int32)) (by decide) (q := 16) rfl ?_
  refine g_istore X101 hx (hb hby d7_16) (L' := #[.val (.ref b), .val (.ref lb), .val (.int (1 : Int32)), .val (.ref ae), .val (.int (0 : Int32)), .val (.int (0 : Int32)), .unset, .unset]) rfl (q := 18) rfl ?_
  refine g_iconst X101 hx (hb hby d7_18) (n := (0 : Int32)) (by decide) (q := 19) rfl ?_
  refine g_istore X101 hx (hb hby d7_19) (L' := #[.val (.ref b), .val (.ref lb), .val (.int (1 : Int32)), .val (.ref ae), .val (.int (0 : Int32)), .val (.int (0 : Int32)), .val (.int (0 : Int32)), .unset]) rfl (q := 21) rfl ?_
  refine g_iload X101 hx (hb hby d7_21) (v := (0 : Int32)) rfl (q := 23) rfl ?_
  refine g_iload X101 hx (hb hby d7_23) (v := (0 : Int32)) rfl (q := 25) rfl ?_
  refine g_icmp_gt X101 hx (hb hby d7_25) (by decide) (q := 76) (by decide) (q2 := 28) rfl (fun hb25 => absurd hb25 (by decide)) (fun hb25 => ?_)
  refine g_iload X101 hx (hb hby d7_28) (v := (0 : Int32)) rfl (q := 30) rfl ?_
  refine g_iload X101 hx (hb hby d7_30) (v := (0 : Int32)) rfl (q := 32) rfl ?_
  refine g_iadd X101 hx (hb hby d7_32) (z := (0 : Int32)) (by decide) (q := 33) rfl ?_
  refine g_iconst X101 hx (hb hby d7_33) (n := (1 : Int32)) (by decide) (q := 34) rfl ?_
  refine g_iushr X101 hx (hb hby d7_34) (z := (0 : Int32)) (by decide) (q := 35) rfl ?_
  refine g_istore X101 hx (hb hby d7_35) (L' := #[.val (.ref b), .val (.ref lb), .val (.int (1 : Int32)), .val (.ref ae), .val (.int (0 : Int32)), .val (.int (0 : Int32)), .val (.int (0 : Int32)), .val (.int (0 : Int32))]) rfl (q := 37) rfl ?_
  refine g_aloadN X101 hx (hb hby d7_37) (v := (.ref lb)) rfl rfl (q := 38) rfl ?_
  refine g_aloadN X101 hx (hb hby d7_38) (v := (.ref ae)) rfl rfl (q := 39) rfl ?_
  refine g_iload X101 hx (hb hby d7_39) (v := (0 : Int32)) rfl (q := 41) rfl ?_
  refine g_test X101 hx hH hown (hw _ (List.mem_of_getElem? (i := 53) rfl)) (hw _ (List.mem_of_getElem? (i := 54) rfl)) (hw _ (List.mem_of_getElem? (i := 55) rfl)) (hw _ (List.mem_of_getElem? (i := 32) rfl)) (hw _ (List.mem_of_getElem? (i := 35) rfl)) (hw _ (List.mem_of_getElem? (i := 57) rfl)) (hw _ (List.mem_of_getElem? (i := 56) rfl)) (hw _ (List.mem_of_getElem? (i := 10) rfl)) e101 (r0 := (1 : Int32)) L0 (by decide) (rmL l Z a0 hw (0 : Int64) ae (0 : Int32) (0 : Int32) ev0 (0 : Int64) f h0 (by decide) (by decide) (by decide) q0 o0 V0 (1 : Int32) (by decide)) (by exact hml.symm) (Nat.le_of_ble_eq_true rfl) (Nat.le_of_ble_eq_true rfl) (Nat.le_of_ble_eq_true rfl) (Nat.le_of_ble_eq_true rfl) (hb hby d7_41) (q := 46) rfl fun T102 X102 e102 => ?_
  refine g_if_eq X102 hx (hb hby d7_46) (by decide) (q := 67) (by decide) (q2 := 49) rfl (fun hb46 => absurd hb46 (by decide)) (fun hb46 => ?_)
  refine g_aloadN X102 hx (hb hby d7_49) (v := (.ref ae)) rfl rfl (q := 50) rfl ?_
  refine g_iload X102 hx (hb hby d7_50) (v := (0 : Int32)) rfl (q := 52) rfl ?_
  refine g_iconst X102 hx (hb hby d7_52) (n := (2 : Int32)) (by decide) (q := 53) rfl ?_
  refine g_imul X102 hx (hb hby d7_53) (z := (0 : Int32)) (by decide) (q := 54) rfl ?_
  refine g_laload X102 hx hZ e102 V0 (by decide) (by decide) (v := (.long ev0)) q0 (hb hby d7_54) (q := 55) rfl ?_
  refine g_l2i X102 hx (hb hby d7_55) (z := p0) r0 (q := 56) rfl ?_
  refine g_istore X102 hx (hb hby d7_56) (L' := #[.val (.ref b), .val (.ref lb), .val (.int (1 : Int32)), .val (.ref ae), .val (.int (0 : Int32)), .val (.int (0 : Int32)), .val (.int p0), .val (.int (0 : Int32))]) rfl (q := 58) rfl ?_
  refine g_iload X102 hx (hb hby d7_58) (v := (0 : Int32)) rfl (q := 60) rfl ?_
  refine g_iconst X102 hx (hb hby d7_60) (n := (1 : Int32)) (by decide) (q := 61) rfl ?_
  refine g_iadd X102 hx (hb hby d7_61) (z := (1 : Int32)) (by decide) (q := 62) rfl ?_
  refine g_istore X102 hx (hb hby d7_62) (L' := #[.val (.ref b), .val (.ref lb), .val (.int (1 : Int32)), .val (.ref ae), .val (.int (1 : Int32)), .val (.int (0 : Int32)), .val (.int p0), .val (.int (0 : Int32))]) rfl (q := 64) rfl ?_
  refine g_goto X102 hx (hb hby d7_64) (by decide) (q := 73) (by decide) ?_
  refine g_goto X102 hx (hb hby d7_73) (by decide) (q := 21) (by decide) ?_
  refine g_iload X102 hx (hb hby d7_21) (v := (1 : Int32)) rfl (q := 23) rfl ?_
  refine g_iload X102 hx (hb hby d7_23) (v := (0 : Int32)) rfl (q := 25) rfl ?_
  refine g_icmp_gt X102 hx (hb hby d7_25) (by decide) (q := 76) (by decide) (q2 := 28) rfl (fun hb25 => ?_) (fun hb25 => absurd hb25 (by decide))
  refine g_iload X102 hx (hb hby d7_76) (v := p0) rfl (q := 78) rfl ?_
  exact g_retI X102 hx hret hlk (hb hby d7_78) ⟨rfl, rfl, e102⟩ (Nat.le_of_ble_eq_true rfl) (Nat.le_of_ble_eq_true rfl)
set_option maxRecDepth 65536 in
set_option maxHeartbeats 40000000 in
theorem rmF10 (l : Launch) (Z : State) (a0 : Array Value) (hw : ∀ d ∈ tables_1, d.before a0 Z = true) (b ae : Addr) (ev0 : Int64) (p0 : Int32) (f : Nat → Value) (h0 : Heap) (E0 : Exa Z h0 b "com/example/newlyn/newlyn/storage/SegmentIndex") (F0 : Fld Z h0 b "com/example/newlyn/newlyn/storage/SegmentIndex" "entries" "[J" (.ref ae)) (F1 : Fld Z h0 b "com/example/newlyn/newlyn/storage/SegmentIndex" "count" "I" (.int (1 : Int32))) (V0 : Af Z h0 ae .long 32 f) (q0 : f (0 : Int32).toNatClampNeg = .long ev0) (r0 : ev0.toInt32 = p0) (o0 : own_off ev0 = (0 : Int64)) :
    ConH l Z h0 (⟨"com/example/newlyn/newlyn/storage/SegmentIndex", "floorPosition", "(J)I"⟩ : MethodName) prog_23_method_4_code 3 (some .int) ({ frames := 3, cells := 1, slots := 1, locals := 3075 } : Room) #[(.ref b), (.long (0 : Int64))] (fun v h L => v = some (.int p0) ∧ L = [] ∧ Ext h0 h) := by
  refine con_ofH (plainFor_of_name pn_1) (Ls := #[.val (.ref b), .val (.long (0 : Int64)), .second]) (fun m => by first | (simp [entryFrame, mkF, argsToLocals, Value.category]; done) | rfl) ?_
  intro p e s m below meth c s₁ hx hH hby hml hret hlk hnm hown hnamed X0 e0
  have hZ := hH.wide
  refine g_aloadN X0 hx (hb hby d6_0) (v := (.ref b)) rfl rfl (q := 1) rfl ?_
  refine g_lloadN X0 hx (hb hby d6_1) (v := (0 : Int64)) rfl (q := 2) rfl ?_
  refine g_lambda X0 hx hH hnamed (hw _ (List.mem_of_getElem? (i := 32) rfl)) (hw _ (List.mem_of_getElem? (i := 35) rfl)) e0 (by exact hml.symm) (hb hby d6_2) (Nat.le_of_ble_eq_true rfl) (Nat.le_of_ble_eq_true rfl) (Nat.le_of_ble_eq_true rfl) fun T103 h103 lb g103 X103 e103 E103 L103 => ?_
  have f104 := (E0.ext E103)
  have f105 := (F0.ext E103)
  have f106 := (F1.ext E103)
  have f107 := (V0.ext E103)
  refine g_callPH X103 hx hH hown (hw _ (List.mem_of_getElem? (i := 36) rfl)) (hw _ (List.mem_of_getElem? (i := 37) rfl)) (hw _ (List.mem_of_getElem? (i := 38) rfl)) (hw _ (List.mem_of_getElem? (i := 9) rfl)) (hw _ (List.mem_of_getElem? (i := 39) rfl)) (hw _ (List.mem_of_getElem? (i := 10) rfl)) (by decide) e103 f104 (rmLP10 l Z a0 hw b ae lb ev0 p0 f h103 f104 f105 f106 f107 L103 q0 r0 o0) (by exact hml.symm) (argsL := [(.ref lb)]) (rest := []) rfl rfl pd_1 rfl (Nat.le_of_ble_eq_true rfl) (Nat.le_of_ble_eq_true rfl) (Nat.le_of_ble_eq_true rfl) (Nat.le_of_ble_eq_true rfl) (hb hby d6_7) (q := 10) rfl (fun v108 T108 L108 X108 hQ108 => ?_)
  obtain ⟨rfl, rfl, e108⟩ := hQ108
  show Go p e below _ (T108.setTop (mkF m 10 #[.val (.ref b), .val (.long (0 : Int64)), .second] [(.int p0)]))
  exact g_retI X108 hx hret hlk (hb hby d6_10) ⟨rfl, by simp, by rw [e108]; exact E103⟩ (Nat.le_of_ble_eq_true rfl) (Nat.le_of_ble_eq_true rfl)
set_option maxRecDepth 65536 in
set_option maxHeartbeats 40000000 in
theorem rmLP11 (l : Launch) (Z : State) (a0 : Array Value) (hw : ∀ d ∈ tables_1, d.before a0 Z = true) (b ae lb : Addr) (ev0 : Int64) (p0 : Int32) (f : Nat → Value) (h0 : Heap) (E0 : Exa Z h0 b "com/example/newlyn/newlyn/storage/SegmentIndex") (F0 : Fld Z h0 b "com/example/newlyn/newlyn/storage/SegmentIndex" "entries" "[J" (.ref ae)) (F1 : Fld Z h0 b "com/example/newlyn/newlyn/storage/SegmentIndex" "count" "I" (.int (1 : Int32))) (V0 : Af Z h0 ae .long 32 f) (L0 : Lob Z h0 lb (1 : Int64)) (q0 : f (0 : Int32).toNatClampNeg = .long ev0) (r0 : ev0.toInt32 = p0) (o0 : own_off ev0 = (0 : Int64)) :
    ConH l Z h0 (⟨"com/example/newlyn/newlyn/storage/SegmentIndex", "lastPosition", "(Lcom/example/newlyn/newlyn/storage/SegmentIndex$EntryTest;)I"⟩ : MethodName) prog_23_method_6_code 8 (some .int) ({ frames := 2, cells := 0, slots := 0, locals := 29 } : Room) #[(.ref b), (.ref lb)] (Pur (some (.int p0)) h0) := by
  refine con_ofH (plainFor_of_name pn_1) (Ls := #[.val (.ref b), .val (.ref lb), .unset, .unset, .unset, .unset, .unset, .unset]) (fun m => by first | (simp [entryFrame, mkF, argsToLocals, Value.category]; done) | rfl) ?_
  intro p e s m below meth c s₁ hx hH hby hml hret hlk hnm hown hnamed X0 e0
  have hZ := hH.wide
  refine g_aloadN X0 hx (hb hby d7_0) (v := (.ref b)) rfl rfl (q := 1) rfl ?_
  refine g_getF X0 hx hZ hown (hw _ (List.mem_of_getElem? (i := 25) rfl)) Via.refl e0 F1 (hb hby d7_1) (q := 4) rfl fun T109 X109 e109 => ?_
  refine g_istoreN X109 hx (hb hby d7_4) (L' := #[.val (.ref b), .val (.ref lb), .val (.int (1 : Int32)), .unset, .unset, .unset, .unset, .unset]) rfl (q := 5) rfl ?_
  refine g_aloadN X109 hx (hb hby d7_5) (v := (.ref b)) rfl rfl (q := 6) rfl ?_
  refine g_getF X109 hx hZ hown (hw _ (List.mem_of_getElem? (i := 18) rfl)) Via.refl e109 F0 (hb hby d7_6) (q := 9) rfl fun T110 X110 e110 => ?_
  refine g_astoreN X110 hx (hb hby d7_9) rfl (L' := #[.val (.ref b), .val (.ref lb), .val (.int (1 : Int32)), .val (.ref ae), .unset, .unset, .unset, .unset]) rfl (q := 10) rfl ?_
  refine g_iconst X110 hx (hb hby d7_10) (n := (0 : Int32)) (by decide) (q := 11) rfl ?_
  refine g_istore X110 hx (hb hby d7_11) (L' := #[.val (.ref b), .val (.ref lb), .val (.int (1 : Int32)), .val (.ref ae), .val (.int (0 : Int32)), .unset, .unset, .unset]) rfl (q := 13) rfl ?_
  refine g_iloadN X110 hx (hb hby d7_13) (v := (1 : Int32)) rfl (q := 14) rfl ?_
  refine g_iconst X110 hx (hb hby d7_14) (n := (1 : Int32)) (by decide) (q := 15) rfl ?_
  refine g_isub X110 hx (hb hby d7_15) (z := (0 : Int32)) (by decide) (q := 16) rfl ?_
  refine g_istore X110 hx (hb hby d7_16) (L' := #[.val (.ref b), .val (.ref lb), .val (.int (1 : Int32)), .val (.ref ae), .val (.int (0 : Int32)), .val (.int (0 : Int32)), .unset, .unset]) rfl (q := 18) rfl ?_
  refine g_iconst X110 hx (hb hby d7_18) (n := (0 : Int32)) (by decide) (q := 19) rfl ?_
  refine g_istore X110 hx (hb hby d7_19) (L' := #[.val (.ref b), .val (.ref lb), .val (.int (1 : Int32)), .val (.ref ae), .val (.int (0 : Int32)), .val (.int (0 : Int32)), .val (.int (0 : Int32)), .unset]) rfl (q := 21) rfl ?_
  refine g_iload X110 hx (hb hby d7_21) (v := (0 : Int32)) rfl (q := 23) rfl ?_
  refine g_iload X110 hx (hb hby d7_23) (v := (0 : Int32)) rfl (q := 25) rfl ?_
  refine g_icmp_gt X110 hx (hb hby d7_25) (by decide) (q := 76) (by decide) (q2 := 28) rfl (fun hb25 => absurd hb25 (by decide)) (fun hb25 => ?_)
  refine g_iload X110 hx (hb hby d7_28) (v := (0 : Int32)) rfl (q := 30) rfl ?_
  refine g_iload X110 hx (hb hby d7_30) (v := (0 : Int32)) rfl (q := 32) rfl ?_
  refine g_iadd X110 hx (hb hby d7_32) (z := (0 : Int32)) (by decide) (q := 33) rfl ?_
  refine g_iconst X110 hx (hb hby d7_33) (n := (1 : Int32)) (by decide) (q := 34) rfl ?_
  refine g_iushr X110 hx (hb hby d7_34) (z := (0 : Int32)) (by decide) (q := 35) rfl ?_
  refine g_istore X110 hx (hb hby d7_35) (L' := #[.val (.ref b), .val (.ref lb), .val (.int (1 : Int32)), .val (.ref ae), .val (.int (0 : Int32)), .val (.int (0 : Int32)), .val (.int (0 : Int32)), .val (.int (0 : Int32))]) rfl (q := 37) rfl ?_
  refine g_aloadN X110 hx (hb hby d7_37) (v := (.ref lb)) rfl rfl (q := 38) rfl ?_
  refine g_aloadN X110 hx (hb hby d7_38) (v := (.ref ae)) rfl rfl (q := 39) rfl ?_
  refine g_iload X110 hx (hb hby d7_39) (v := (0 : Int32)) rfl (q := 41) rfl ?_
  refine g_test X110 hx hH hown (hw _ (List.mem_of_getElem? (i := 53) rfl)) (hw _ (List.mem_of_getElem? (i := 54) rfl)) (hw _ (List.mem_of_getElem? (i := 55) rfl)) (hw _ (List.mem_of_getElem? (i := 32) rfl)) (hw _ (List.mem_of_getElem? (i := 35) rfl)) (hw _ (List.mem_of_getElem? (i := 57) rfl)) (hw _ (List.mem_of_getElem? (i := 56) rfl)) (hw _ (List.mem_of_getElem? (i := 10) rfl)) e110 (r0 := (1 : Int32)) L0 (by decide) (rmL l Z a0 hw (1 : Int64) ae (0 : Int32) (0 : Int32) ev0 (0 : Int64) f h0 (by decide) (by decide) (by decide) q0 o0 V0 (1 : Int32) (by decide)) (by exact hml.symm) (Nat.le_of_ble_eq_true rfl) (Nat.le_of_ble_eq_true rfl) (Nat.le_of_ble_eq_true rfl) (Nat.le_of_ble_eq_true rfl) (hb hby d7_41) (q := 46) rfl fun T111 X111 e111 => ?_
  refine g_if_eq X111 hx (hb hby d7_46) (by decide) (q := 67) (by decide) (q2 := 49) rfl (fun hb46 => absurd hb46 (by decide)) (fun hb46 => ?_)
  refine g_aloadN X111 hx (hb hby d7_49) (v := (.ref ae)) rfl rfl (q := 50) rfl ?_
  refine g_iload X111 hx (hb hby d7_50) (v := (0 : Int32)) rfl (q := 52) rfl ?_
  refine g_iconst X111 hx (hb hby d7_52) (n := (2 : Int32)) (by decide) (q := 53) rfl ?_
  refine g_imul X111 hx (hb hby d7_53) (z := (0 : Int32)) (by decide) (q := 54) rfl ?_
  refine g_laload X111 hx hZ e111 V0 (by decide) (by decide) (v := (.long ev0)) q0 (hb hby d7_54) (q := 55) rfl ?_
  refine g_l2i X111 hx (hb hby d7_55) (z := p0) r0 (q := 56) rfl ?_
  refine g_istore X111 hx (hb hby d7_56) (L' := #[.val (.ref b), .val (.ref lb), .val (.int (1 : Int32)), .val (.ref ae), .val (.int (0 : Int32)), .val (.int (0 : Int32)), .val (.int p0), .val (.int (0 : Int32))]) rfl (q := 58) rfl ?_
  refine g_iload X111 hx (hb hby d7_58) (v := (0 : Int32)) rfl (q := 60) rfl ?_
  refine g_iconst X111 hx (hb hby d7_60) (n := (1 : Int32)) (by decide) (q := 61) rfl ?_
  refine g_iadd X111 hx (hb hby d7_61) (z := (1 : Int32)) (by decide) (q := 62) rfl ?_
  refine g_istore X111 hx (hb hby d7_62) (L' := #[.val (.ref b), .val (.ref lb), .val (.int (1 : Int32)), .val (.ref ae), .val (.int (1 : Int32)), .val (.int (0 : Int32)), .val (.int p0), .val (.int (0 : Int32))]) rfl (q := 64) rfl ?_
  refine g_goto X111 hx (hb hby d7_64) (by decide) (q := 73) (by decide) ?_
  refine g_goto X111 hx (hb hby d7_73) (by decide) (q := 21) (by decide) ?_
  refine g_iload X111 hx (hb hby d7_21) (v := (1 : Int32)) rfl (q := 23) rfl ?_
  refine g_iload X111 hx (hb hby d7_23) (v := (0 : Int32)) rfl (q := 25) rfl ?_
  refine g_icmp_gt X111 hx (hb hby d7_25) (by decide) (q := 76) (by decide) (q2 := 28) rfl (fun hb25 => ?_) (fun hb25 => absurd hb25 (by decide))
  refine g_iload X111 hx (hb hby d7_76) (v := p0) rfl (q := 78) rfl ?_
  exact g_retI X111 hx hret hlk (hb hby d7_78) ⟨rfl, rfl, e111⟩ (Nat.le_of_ble_eq_true rfl) (Nat.le_of_ble_eq_true rfl)
set_option maxRecDepth 65536 in
set_option maxHeartbeats 40000000 in
theorem rmF11 (l : Launch) (Z : State) (a0 : Array Value) (hw : ∀ d ∈ tables_1, d.before a0 Z = true) (b ae : Addr) (ev0 : Int64) (p0 : Int32) (f : Nat → Value) (h0 : Heap) (E0 : Exa Z h0 b "com/example/newlyn/newlyn/storage/SegmentIndex") (F0 : Fld Z h0 b "com/example/newlyn/newlyn/storage/SegmentIndex" "entries" "[J" (.ref ae)) (F1 : Fld Z h0 b "com/example/newlyn/newlyn/storage/SegmentIndex" "count" "I" (.int (1 : Int32))) (V0 : Af Z h0 ae .long 32 f) (q0 : f (0 : Int32).toNatClampNeg = .long ev0) (r0 : ev0.toInt32 = p0) (o0 : own_off ev0 = (0 : Int64)) :
    ConH l Z h0 (⟨"com/example/newlyn/newlyn/storage/SegmentIndex", "floorPosition", "(J)I"⟩ : MethodName) prog_23_method_4_code 3 (some .int) ({ frames := 3, cells := 1, slots := 1, locals := 3075 } : Room) #[(.ref b), (.long (1 : Int64))] (fun v h L => v = some (.int p0) ∧ L = [] ∧ Ext h0 h) := by
  refine con_ofH (plainFor_of_name pn_1) (Ls := #[.val (.ref b), .val (.long (1 : Int64)), .second]) (fun m => by first | (simp [entryFrame, mkF, argsToLocals, Value.category]; done) | rfl) ?_
  intro p e s m below meth c s₁ hx hH hby hml hret hlk hnm hown hnamed X0 e0
  have hZ := hH.wide
  refine g_aloadN X0 hx (hb hby d6_0) (v := (.ref b)) rfl rfl (q := 1) rfl ?_
  refine g_lloadN X0 hx (hb hby d6_1) (v := (1 : Int64)) rfl (q := 2) rfl ?_
  refine g_lambda X0 hx hH hnamed (hw _ (List.mem_of_getElem? (i := 32) rfl)) (hw _ (List.mem_of_getElem? (i := 35) rfl)) e0 (by exact hml.symm) (hb hby d6_2) (Nat.le_of_ble_eq_true rfl) (Nat.le_of_ble_eq_true rfl) (Nat.le_of_ble_eq_true rfl) fun T112 h112 lb g112 X112 e112 E112 L112 => ?_
  have f113 := (E0.ext E112)
  have f114 := (F0.ext E112)
  have f115 := (F1.ext E112)
  have f116 := (V0.ext E112)
  refine g_callPH X112 hx hH hown (hw _ (List.mem_of_getElem? (i := 36) rfl)) (hw _ (List.mem_of_getElem? (i := 37) rfl)) (hw _ (List.mem_of_getElem? (i := 38) rfl)) (hw _ (List.mem_of_getElem? (i := 9) rfl)) (hw _ (List.mem_of_getElem? (i := 39) rfl)) (hw _ (List.mem_of_getElem? (i := 10) rfl)) (by decide) e112 f113 (rmLP11 l Z a0 hw b ae lb ev0 p0 f h112 f113 f114 f115 f116 L112 q0 r0 o0) (by exact hml.symm) (argsL := [(.ref lb)]) (rest := []) rfl rfl pd_1 rfl (Nat.le_of_ble_eq_true rfl) (Nat.le_of_ble_eq_true rfl) (Nat.le_of_ble_eq_true rfl) (Nat.le_of_ble_eq_true rfl) (hb hby d6_7) (q := 10) rfl (fun v117 T117 L117 X117 hQ117 => ?_)
  obtain ⟨rfl, rfl, e117⟩ := hQ117
  show Go p e below _ (T117.setTop (mkF m 10 #[.val (.ref b), .val (.long (1 : Int64)), .second] [(.int p0)]))
  exact g_retI X117 hx hret hlk (hb hby d6_10) ⟨rfl, by simp, by rw [e117]; exact E112⟩ (Nat.le_of_ble_eq_true rfl) (Nat.le_of_ble_eq_true rfl)
set_option maxRecDepth 65536 in
set_option maxHeartbeats 40000000 in
theorem rmLP12 (l : Launch) (Z : State) (a0 : Array Value) (hw : ∀ d ∈ tables_1, d.before a0 Z = true) (b ae lb : Addr) (ev0 : Int64) (p0 : Int32) (f : Nat → Value) (h0 : Heap) (E0 : Exa Z h0 b "com/example/newlyn/newlyn/storage/SegmentIndex") (F0 : Fld Z h0 b "com/example/newlyn/newlyn/storage/SegmentIndex" "entries" "[J" (.ref ae)) (F1 : Fld Z h0 b "com/example/newlyn/newlyn/storage/SegmentIndex" "count" "I" (.int (1 : Int32))) (V0 : Af Z h0 ae .long 32 f) (L0 : Lob Z h0 lb (2 : Int64)) (q0 : f (0 : Int32).toNatClampNeg = .long ev0) (r0 : ev0.toInt32 = p0) (o0 : own_off ev0 = (0 : Int64)) :
    ConH l Z h0 (⟨"com/example/newlyn/newlyn/storage/SegmentIndex", "lastPosition", "(Lcom/example/newlyn/newlyn/storage/SegmentIndex$EntryTest;)I"⟩ : MethodName) prog_23_method_6_code 8 (some .int) ({ frames := 2, cells := 0, slots := 0, locals := 29 } : Room) #[(.ref b), (.ref lb)] (Pur (some (.int p0)) h0) := by
  refine con_ofH (plainFor_of_name pn_1) (Ls := #[.val (.ref b), .val (.ref lb), .unset, .unset, .unset, .unset, .unset, .unset]) (fun m => by first | (simp [entryFrame, mkF, argsToLocals, Value.category]; done) | rfl) ?_
  intro p e s m below meth c s₁ hx hH hby hml hret hlk hnm hown hnamed X0 e0
  have hZ := hH.wide
  refine g_aloadN X0 hx (hb hby d7_0) (v := (.ref b)) rfl rfl (q := 1) rfl ?_
  refine g_getF X0 hx hZ hown (hw _ (List.mem_of_getElem? (i := 25) rfl)) Via.refl e0 F1 (hb hby d7_1) (q := 4) rfl fun T118 X118 e118 => ?_
  refine g_istoreN X118 hx (hb hby d7_4) (L' := #[.val (.ref b), .val (.ref lb), .val (.int (1 : Int32)), .unset, .unset, .unset, .unset, .unset]) rfl (q := 5) rfl ?_
  refine g_aloadN X118 hx (hb hby d7_5) (v := (.ref b)) rfl rfl (q := 6) rfl ?_
  refine g_getF X118 hx hZ hown (hw _ (List.mem_of_getElem? (i := 18) rfl)) Via.refl e118 F0 (hb hby d7_6) (q := 9) rfl fun T119 X119 e119 => ?_
  refine g_astoreN X119 hx (hb hby d7_9) rfl (L' := #[.val (.ref b), .val (.ref lb), .val (.int (1 : Int32)), .val (.ref ae), .unset, .unset, .unset, .unset]) rfl (q := 10) rfl ?_
  refine g_iconst X119 hx (hb hby d7_10) (n := (0 : Int32)) (by decide) (q := 11) rfl ?_
  refine g_istore X119 hx (hb hby d7_11) (L' := #[.val (.ref b), .val (.ref lb), .val (.int (1 : Int32)), .val (.ref ae), .val (.int (0 : Int32)), .unset, .unset, .unset]) rfl (q := 13) rfl ?_
  refine g_iloadN X119 hx (hb hby d7_13) (v := (1 : Int32)) rfl (q := 14) rfl ?_
  refine g_iconst X119 hx (hb hby d7_14) (n := (1 : Int32)) (by decide) (q := 15) rfl ?_
  refine g_isub X119 hx (hb hby d7_15) (z := (0 : Int32)) (by decide) (q := 16) rfl ?_
  refine g_istore X119 hx (hb hby d7_16) (L' := #[.val (.ref b), .val (.ref lb), .val (.int (1 : Int32)), .val (.ref ae), .val (.int (0 : Int32)), .val (.int (0 : Int32)), .unset, .unset]) rfl (q := 18) rfl ?_
  refine g_iconst X119 hx (hb hby d7_18) (n := (0 : Int32)) (by decide) (q := 19) rfl ?_
  refine g_istore X119 hx (hb hby d7_19) (L' := #[.val (.ref b), .val (.ref lb), .val (.int (1 : Int32)), .val (.ref ae), .val (.int (0 : Int32)), .val (.int (0 : Int32)), .val (.int (0 : Int32)), .unset]) rfl (q := 21) rfl ?_
  refine g_iload X119 hx (hb hby d7_21) (v := (0 : Int32)) rfl (q := 23) rfl ?_
  refine g_iload X119 hx (hb hby d7_23) (v := (0 : Int32)) rfl (q := 25) rfl ?_
  refine g_icmp_gt X119 hx (hb hby d7_25) (by decide) (q := 76) (by decide) (q2 := 28) rfl (fun hb25 => absurd hb25 (by decide)) (fun hb25 => ?_)
  refine g_iload X119 hx (hb hby d7_28) (v := (0 : Int32)) rfl (q := 30) rfl ?_
  refine g_iload X119 hx (hb hby d7_30) (v := (0 : Int32)) rfl (q := 32) rfl ?_
  refine g_iadd X119 hx (hb hby d7_32) (z := (0 : Int32)) (by decide) (q := 33) rfl ?_
  refine g_iconst X119 hx (hb hby d7_33) (n := (1 : Int32)) (by decide) (q := 34) rfl ?_
  refine g_iushr X119 hx (hb hby d7_34) (z := (0 : Int32)) (by decide) (q := 35) rfl ?_
  refine g_istore X119 hx (hb hby d7_35) (L' := #[.val (.ref b), .val (.ref lb), .val (.int (1 : Int32)), .val (.ref ae), .val (.int (0 : Int32)), .val (.int (0 : Int32)), .val (.int (0 : Int32)), .val (.int (0 : Int32))]) rfl (q := 37) rfl ?_
  refine g_aloadN X119 hx (hb hby d7_37) (v := (.ref lb)) rfl rfl (q := 38) rfl ?_
  refine g_aloadN X119 hx (hb hby d7_38) (v := (.ref ae)) rfl rfl (q := 39) rfl ?_
  refine g_iload X119 hx (hb hby d7_39) (v := (0 : Int32)) rfl (q := 41) rfl ?_
  refine g_test X119 hx hH hown (hw _ (List.mem_of_getElem? (i := 53) rfl)) (hw _ (List.mem_of_getElem? (i := 54) rfl)) (hw _ (List.mem_of_getElem? (i := 55) rfl)) (hw _ (List.mem_of_getElem? (i := 32) rfl)) (hw _ (List.mem_of_getElem? (i := 35) rfl)) (hw _ (List.mem_of_getElem? (i := 57) rfl)) (hw _ (List.mem_of_getElem? (i := 56) rfl)) (hw _ (List.mem_of_getElem? (i := 10) rfl)) e119 (r0 := (1 : Int32)) L0 (by decide) (rmL l Z a0 hw (2 : Int64) ae (0 : Int32) (0 : Int32) ev0 (0 : Int64) f h0 (by decide) (by decide) (by decide) q0 o0 V0 (1 : Int32) (by decide)) (by exact hml.symm) (Nat.le_of_ble_eq_true rfl) (Nat.le_of_ble_eq_true rfl) (Nat.le_of_ble_eq_true rfl) (Nat.le_of_ble_eq_true rfl) (hb hby d7_41) (q := 46) rfl fun T120 X120 e120 => ?_
  refine g_if_eq X120 hx (hb hby d7_46) (by decide) (q := 67) (by decide) (q2 := 49) rfl (fun hb46 => absurd hb46 (by decide)) (fun hb46 => ?_)
  refine g_aloadN X120 hx (hb hby d7_49) (v := (.ref ae)) rfl rfl (q := 50) rfl ?_
  refine g_iload X120 hx (hb hby d7_50) (v := (0 : Int32)) rfl (q := 52) rfl ?_
  refine g_iconst X120 hx (hb hby d7_52) (n := (2 : Int32)) (by decide) (q := 53) rfl ?_
  refine g_imul X120 hx (hb hby d7_53) (z := (0 : Int32)) (by decide) (q := 54) rfl ?_
  refine g_laload X120 hx hZ e120 V0 (by decide) (by decide) (v := (.long ev0)) q0 (hb hby d7_54) (q := 55) rfl ?_
  refine g_l2i X120 hx (hb hby d7_55) (z := p0) r0 (q := 56) rfl ?_
  refine g_istore X120 hx (hb hby d7_56) (L' := #[.val (.ref b), .val (.ref lb), .val (.int (1 : Int32)), .val (.ref ae), .val (.int (0 : Int32)), .val (.int (0 : Int32)), .val (.int p0), .val (.int (0 : Int32))]) rfl (q := 58) rfl ?_
  refine g_iload X120 hx (hb hby d7_58) (v := (0 : Int32)) rfl (q := 60) rfl ?_
  refine g_iconst X120 hx (hb hby d7_60) (n := (1 : Int32)) (by decide) (q := 61) rfl ?_
  refine g_iadd X120 hx (hb hby d7_61) (z := (1 : Int32)) (by decide) (q := 62) rfl ?_
  refine g_istore X120 hx (hb hby d7_62) (L' := #[.val (.ref b), .val (.ref lb), .val (.int (1 : Int32)), .val (.ref ae), .val (.int (1 : Int32)), .val (.int (0 : Int32)), .val (.int p0), .val (.int (0 : Int32))]) rfl (q := 64) rfl ?_
  refine g_goto X120 hx (hb hby d7_64) (by decide) (q := 73) (by decide) ?_
  refine g_goto X120 hx (hb hby d7_73) (by decide) (q := 21) (by decide) ?_
  refine g_iload X120 hx (hb hby d7_21) (v := (1 : Int32)) rfl (q := 23) rfl ?_
  refine g_iload X120 hx (hb hby d7_23) (v := (0 : Int32)) rfl (q := 25) rfl ?_
  refine g_icmp_gt X120 hx (hb hby d7_25) (by decide) (q := 76) (by decide) (q2 := 28) rfl (fun hb25 => ?_) (fun hb25 => absurd hb25 (by decide))
  refine g_iload X120 hx (hb hby d7_76) (v := p0) rfl (q := 78) rfl ?_
  exact g_retI X120 hx hret hlk (hb hby d7_78) ⟨rfl, rfl, e120⟩ (Nat.le_of_ble_eq_true rfl) (Nat.le_of_ble_eq_true rfl)
set_option maxRecDepth 65536 in
set_option maxHeartbeats 40000000 in
theorem rmF12 (l : Launch) (Z : State) (a0 : Array Value) (hw : ∀ d ∈ tables_1, d.before a0 Z = true) (b ae : Addr) (ev0 : Int64) (p0 : Int32) (f : Nat → Value) (h0 : Heap) (E0 : Exa Z h0 b "com/example/newlyn/newlyn/storage/SegmentIndex") (F0 : Fld Z h0 b "com/example/newlyn/newlyn/storage/SegmentIndex" "entries" "[J" (.ref ae)) (F1 : Fld Z h0 b "com/example/newlyn/newlyn/storage/SegmentIndex" "count" "I" (.int (1 : Int32))) (V0 : Af Z h0 ae .long 32 f) (q0 : f (0 : Int32).toNatClampNeg = .long ev0) (r0 : ev0.toInt32 = p0) (o0 : own_off ev0 = (0 : Int64)) :
    ConH l Z h0 (⟨"com/example/newlyn/newlyn/storage/SegmentIndex", "floorPosition", "(J)I"⟩ : MethodName) prog_23_method_4_code 3 (some .int) ({ frames := 3, cells := 1, slots := 1, locals := 3075 } : Room) #[(.ref b), (.long (2 : Int64))] (fun v h L => v = some (.int p0) ∧ L = [] ∧ Ext h0 h) := by
  refine con_ofH (plainFor_of_name pn_1) (Ls := #[.val (.ref b), .val (.long (2 : Int64)), .second]) (fun m => by first | (simp [entryFrame, mkF, argsToLocals, Value.category]; done) | rfl) ?_
  intro p e s m below meth c s₁ hx hH hby hml hret hlk hnm hown hnamed X0 e0
  have hZ := hH.wide
  refine g_aloadN X0 hx (hb hby d6_0) (v := (.ref b)) rfl rfl (q := 1) rfl ?_
  refine g_lloadN X0 hx (hb hby d6_1) (v := (2 : Int64)) rfl (q := 2) rfl ?_
  refine g_lambda X0 hx hH hnamed (hw _ (List.mem_of_getElem? (i := 32) rfl)) (hw _ (List.mem_of_getElem? (i := 35) rfl)) e0 (by exact hml.symm) (hb hby d6_2) (Nat.le_of_ble_eq_true rfl) (Nat.le_of_ble_eq_true rfl) (Nat.le_of_ble_eq_true rfl) fun T121 h121 lb g121 X121 e121 E121 L121 => ?_
  have f122 := (E0.ext E121)
  have f123 := (F0.ext E121)
  have f124 := (F1.ext E121)
  have f125 := (V0.ext E121)
  refine g_callPH X121 hx hH hown (hw _ (List.mem_of_getElem? (i := 36) rfl)) (hw _ (List.mem_of_getElem? (i := 37) rfl)) (hw _ (List.mem_of_getElem? (i := 38) rfl)) (hw _ (List.mem_of_getElem? (i := 9) rfl)) (hw _ (List.mem_of_getElem? (i := 39) rfl)) (hw _ (List.mem_of_getElem? (i := 10) rfl)) (by decide) e121 f122 (rmLP12 l Z a0 hw b ae lb ev0 p0 f h121 f122 f123 f124 f125 L121 q0 r0 o0) (by exact hml.symm) (argsL := [(.ref lb)]) (rest := []) rfl rfl pd_1 rfl (Nat.le_of_ble_eq_true rfl) (Nat.le_of_ble_eq_true rfl) (Nat.le_of_ble_eq_true rfl) (Nat.le_of_ble_eq_true rfl) (hb hby d6_7) (q := 10) rfl (fun v126 T126 L126 X126 hQ126 => ?_)
  obtain ⟨rfl, rfl, e126⟩ := hQ126
  show Go p e below _ (T126.setTop (mkF m 10 #[.val (.ref b), .val (.long (2 : Int64)), .second] [(.int p0)]))
  exact g_retI X126 hx hret hlk (hb hby d6_10) ⟨rfl, by simp, by rw [e126]; exact E121⟩ (Nat.le_of_ble_eq_true rfl) (Nat.le_of_ble_eq_true rfl)
theorem d7_67 : decode prog_23_method_6_code 67 = .ok (.iload 7, 2) := by decide +kernel
theorem d7_69 : decode prog_23_method_6_code 69 = .ok (.iconst 1, 1) := by decide +kernel
theorem d7_70 : decode prog_23_method_6_code 70 = .ok (.isub, 1) := by decide +kernel
theorem d7_71 : decode prog_23_method_6_code 71 = .ok (.istore 5, 2) := by decide +kernel
set_option maxRecDepth 65536 in
set_option maxHeartbeats 40000000 in
theorem rmLP20 (l : Launch) (Z : State) (a0 : Array Value) (hw : ∀ d ∈ tables_1, d.before a0 Z = true) (b ae lb : Addr) (ev0 : Int64) (p0 : Int32) (ev1 : Int64) (p1 : Int32) (f : Nat → Value) (h0 : Heap) (E0 : Exa Z h0 b "com/example/newlyn/newlyn/storage/SegmentIndex") (F0 : Fld Z h0 b "com/example/newlyn/newlyn/storage/SegmentIndex" "entries" "[J" (.ref ae)) (F1 : Fld Z h0 b "com/example/newlyn/newlyn/storage/SegmentIndex" "count" "I" (.int (2 : Int32))) (V0 : Af Z h0 ae .long 32 f) (L0 : Lob Z h0 lb (0 : Int64)) (q0 : f (0 : Int32).toNatClampNeg = .long ev0) (r0 : ev0.toInt32 = p0) (o0 : own_off ev0 = (0 : Int64)) (q1 : f (2 : Int32).toNatClampNeg = .long ev1) (r1 : ev1.toInt32 = p1) (o1 : own_off ev1 = (1 : Int64)) :
    ConH l Z h0 (⟨"com/example/newlyn/newlyn/storage/SegmentIndex", "lastPosition", "(Lcom/example/newlyn/newlyn/storage/SegmentIndex$EntryTest;)I"⟩ : MethodName) prog_23_method_6_code 8 (some .int) ({ frames := 2, cells := 0, slots := 0, locals := 29 } : Room) #[(.ref b), (.ref lb)] (Pur (some (.int p0)) h0) := by
  refine con_ofH (plainFor_of_name pn_1) (Ls := #[.val (.ref b), .val (.ref lb), .unset, .unset, .unset, .unset, .unset, .unset]) (fun m => by first | (simp [entryFrame, mkF, argsToLocals, Value.category]; done) | rfl) ?_
  intro p e s m below meth c s₁ hx hH hby hml hret hlk hnm hown hnamed X0 e0
  have hZ := hH.wide
  refine g_aloadN X0 hx (hb hby d7_0) (v := (.ref b)) rfl rfl (q := 1) rfl ?_
  refine g_getF X0 hx hZ hown (hw _ (List.mem_of_getElem? (i := 25) rfl)) Via.refl e0 F1 (hb hby d7_1) (q := 4) rfl fun T127 X127 e127 => ?_
  refine g_istoreN X127 hx (hb hby d7_4) (L' := #[.val (.ref b), .val (.ref lb), .val (.int (2 : Int32)), .unset, .unset, .unset, .unset, .unset]) rfl (q := 5) rfl ?_
  refine g_aloadN X127 hx (hb hby d7_5) (v := (.ref b)) rfl rfl (q := 6) rfl ?_
  refine g_getF X127 hx hZ hown (hw _ (List.mem_of_getElem? (i := 18) rfl)) Via.refl e127 F0 (hb hby d7_6) (q := 9) rfl fun T128 X128 e128 => ?_
  refine g_astoreN X128 hx (hb hby d7_9) rfl (L' := #[.val (.ref b), .val (.ref lb), .val (.int (2 : Int32)), .val (.ref ae), .unset, .unset, .unset, .unset]) rfl (q := 10) rfl ?_
  refine g_iconst X128 hx (hb hby d7_10) (n := (0 : Int32)) (by decide) (q := 11) rfl ?_
  refine g_istore X128 hx (hb hby d7_11) (L' := #[.val (.ref b), .val (.ref lb), .val (.int (2 : Int32)), .val (.ref ae), .val (.int (0 : Int32)), .unset, .unset, .unset]) rfl (q := 13) rfl ?_
  refine g_iloadN X128 hx (hb hby d7_13) (v := (2 : Int32)) rfl (q := 14) rfl ?_
  refine g_iconst X128 hx (hb hby d7_14) (n := (1 : Int32)) (by decide) (q := 15) rfl ?_
  refine g_isub X128 hx (hb hby d7_15) (z := (1 : Int32)) (by decide) (q := 16) rfl ?_
  refine g_istore X128 hx (hb hby d7_16) (L' := #[.val (.ref b), .val (.ref lb), .val (.int (2 : Int32)), .val (.ref ae), .val (.int (0 : Int32)), .val (.int (1 : Int32)), .unset, .unset]) rfl (q := 18) rfl ?_
  refine g_iconst X128 hx (hb hby d7_18) (n := (0 : Int32)) (by decide) (q := 19) rfl ?_
  refine g_istore X128 hx (hb hby d7_19) (L' := #[.val (.ref b), .val (.ref lb), .val (.int (2 : Int32)), .val (.ref ae), .val (.int (0 : Int32)), .val (.int (1 : Int32)), .val (.int (0 : Int32)), .unset]) rfl (q := 21) rfl ?_
  refine g_iload X128 hx (hb hby d7_21) (v := (0 : Int32)) rfl (q := 23) rfl ?_
  refine g_iload X128 hx (hb hby d7_23) (v := (1 : Int32)) rfl (q := 25) rfl ?_
  refine g_icmp_gt X128 hx (hb hby d7_25) (by decide) (q := 76) (by decide) (q2 := 28) rfl (fun hb25 => absurd hb25 (by decide)) (fun hb25 => ?_)
  refine g_iload X128 hx (hb hby d7_28) (v := (0 : Int32)) rfl (q := 30) rfl ?_
  refine g_iload X128 hx (hb hby d7_30) (v := (1 : Int32)) rfl (q := 32) rfl ?_
  refine g_iadd X128 hx (hb hby d7_32) (z := (1 : Int32)) (by decide) (q := 33) rfl ?_
  refine g_iconst X128 hx (hb hby d7_33) (n := (1 : Int32)) (by decide) (q := 34) rfl ?_
  refine g_iushr X128 hx (hb hby d7_34) (z := (0 : Int32)) (by decide) (q := 35) rfl ?_
  refine g_istore X128 hx (hb hby d7_35) (L' := #[.val (.ref b), .val (.ref lb), .val (.int (2 : Int32)), .val (.ref ae), .val (.int (0 : Int32)), .val (.int (1 : Int32)), .val (.int (0 : Int32)), .val (.int (0 : Int32))]) rfl (q := 37) rfl ?_
  refine g_aloadN X128 hx (hb hby d7_37) (v := (.ref lb)) rfl rfl (q := 38) rfl ?_
  refine g_aloadN X128 hx (hb hby d7_38) (v := (.ref ae)) rfl rfl (q := 39) rfl ?_
  refine g_iload X128 hx (hb hby d7_39) (v := (0 : Int32)) rfl (q := 41) rfl ?_
  refine g_test X128 hx hH hown (hw _ (List.mem_of_getElem? (i := 53) rfl)) (hw _ (List.mem_of_getElem? (i := 54) rfl)) (hw _ (List.mem_of_getElem? (i := 55) rfl)) (hw _ (List.mem_of_getElem? (i := 32) rfl)) (hw _ (List.mem_of_getElem? (i := 35) rfl)) (hw _ (List.mem_of_getElem? (i := 57) rfl)) (hw _ (List.mem_of_getElem? (i := 56) rfl)) (hw _ (List.mem_of_getElem? (i := 10) rfl)) e128 (r0 := (1 : Int32)) L0 (by decide) (rmL l Z a0 hw (0 : Int64) ae (0 : Int32) (0 : Int32) ev0 (0 : Int64) f h0 (by decide) (by decide) (by decide) q0 o0 V0 (1 : Int32) (by decide)) (by exact hml.symm) (Nat.le_of_ble_eq_true rfl) (Nat.le_of_ble_eq_true rfl) (Nat.le_of_ble_eq_true rfl) (Nat.le_of_ble_eq_true rfl) (hb hby d7_41) (q := 46) rfl fun T129 X129 e129 => ?_
  refine g_if_eq X129 hx (hb hby d7_46) (by decide) (q := 67) (by decide) (q2 := 49) rfl (fun hb46 => absurd hb46 (by decide)) (fun hb46 => ?_)
  refine g_aloadN X129 hx (hb hby d7_49) (v := (.ref ae)) rfl rfl (q := 50) rfl ?_
  refine g_iload X129 hx (hb hby d7_50) (v := (0 : Int32)) rfl (q := 52) rfl ?_
  refine g_iconst X129 hx (hb hby d7_52) (n := (2 : Int32)) (by decide) (q := 53) rfl ?_
  refine g_imul X129 hx (hb hby d7_53) (z := (0 : Int32)) (by decide) (q := 54) rfl ?_
  refine g_laload X129 hx hZ e129 V0 (by decide) (by decide) (v := (.long ev0)) q0 (hb hby d7_54) (q := 55) rfl ?_
  refine g_l2i X129 hx (hb hby d7_55) (z := p0) r0 (q := 56) rfl ?_
  refine g_istore X129 hx (hb hby d7_56) (L' := #[.val (.ref b), .val (.ref lb), .val (.int (2 : Int32)), .val (.ref ae), .val (.int (0 : Int32)), .val (.int (1 : Int32)), .val (.int p0), .val (.int (0 : Int32))]) rfl (q := 58) rfl ?_
  refine g_iload X129 hx (hb hby d7_58) (v := (0 : Int32)) rfl (q := 60) rfl ?_
  refine g_iconst X129 hx (hb hby d7_60) (n := (1 : Int32)) (by decide) (q := 61) rfl ?_
  refine g_iadd X129 hx (hb hby d7_61) (z := (1 : Int32)) (by decide) (q := 62) rfl ?_
  refine g_istore X129 hx (hb hby d7_62) (L' := #[.val (.ref b), .val (.ref lb), .val (.int (2 : Int32)), .val (.ref ae), .val (.int (1 : Int32)), .val (.int (1 : Int32)), .val (.int p0), .val (.int (0 : Int32))]) rfl (q := 64) rfl ?_
  refine g_goto X129 hx (hb hby d7_64) (by decide) (q := 73) (by decide) ?_
  refine g_goto X129 hx (hb hby d7_73) (by decide) (q := 21) (by decide) ?_
  refine g_iload X129 hx (hb hby d7_21) (v := (1 : Int32)) rfl (q := 23) rfl ?_
  refine g_iload X129 hx (hb hby d7_23) (v := (1 : Int32)) rfl (q := 25) rfl ?_
  refine g_icmp_gt X129 hx (hb hby d7_25) (by decide) (q := 76) (by decide) (q2 := 28) rfl (fun hb25 => absurd hb25 (by decide)) (fun hb25 => ?_)
  refine g_iload X129 hx (hb hby d7_28) (v := (1 : Int32)) rfl (q := 30) rfl ?_
  refine g_iload X129 hx (hb hby d7_30) (v := (1 : Int32)) rfl (q := 32) rfl ?_
  refine g_iadd X129 hx (hb hby d7_32) (z := (2 : Int32)) (by decide) (q := 33) rfl ?_
  refine g_iconst X129 hx (hb hby d7_33) (n := (1 : Int32)) (by decide) (q := 34) rfl ?_
  refine g_iushr X129 hx (hb hby d7_34) (z := (1 : Int32)) (by decide) (q := 35) rfl ?_
  refine g_istore X129 hx (hb hby d7_35) (L' := #[.val (.ref b), .val (.ref lb), .val (.int (2 : Int32)), .val (.ref ae), .val (.int (1 : Int32)), .val (.int (1 : Int32)), .val (.int p0), .val (.int (1 : Int32))]) rfl (q := 37) rfl ?_
  refine g_aloadN X129 hx (hb hby d7_37) (v := (.ref lb)) rfl rfl (q := 38) rfl ?_
  refine g_aloadN X129 hx (hb hby d7_38) (v := (.ref ae)) rfl rfl (q := 39) rfl ?_
  refine g_iload X129 hx (hb hby d7_39) (v := (1 : Int32)) rfl (q := 41) rfl ?_
  refine g_test X129 hx hH hown (hw _ (List.mem_of_getElem? (i := 53) rfl)) (hw _ (List.mem_of_getElem? (i := 54) rfl)) (hw _ (List.mem_of_getElem? (i := 55) rfl)) (hw _ (List.mem_of_getElem? (i := 32) rfl)) (hw _ (List.mem_of_getElem? (i := 35) rfl)) (hw _ (List.mem_of_getElem? (i := 57) rfl)) (hw _ (List.mem_of_getElem? (i := 56) rfl)) (hw _ (List.mem_of_getElem? (i := 10) rfl)) e129 (r0 := (0 : Int32)) L0 (by decide) (rmL l Z a0 hw (0 : Int64) ae (1 : Int32) (2 : Int32) ev1 (1 : Int64) f h0 (by decide) (by decide) (by decide) q1 o1 V0 (0 : Int32) (by decide)) (by exact hml.symm) (Nat.le_of_ble_eq_true rfl) (Nat.le_of_ble_eq_true rfl) (Nat.le_of_ble_eq_true rfl) (Nat.le_of_ble_eq_true rfl) (hb hby d7_41) (q := 46) rfl fun T130 X130 e130 => ?_
  refine g_if_eq X130 hx (hb hby d7_46) (by decide) (q := 67) (by decide) (q2 := 49) rfl (fun hb46 => ?_) (fun hb46 => absurd hb46 (by decide))
  refine g_iload X130 hx (hb hby d7_67) (v := (1 : Int32)) rfl (q := 69) rfl ?_
  refine g_iconst X130 hx (hb hby d7_69) (n := (1 : Int32)) (by decide) (q := 70) rfl ?_
  refine g_isub X130 hx (hb hby d7_70) (z := (0 : Int32)) (by decide) (q := 71) rfl ?_
  refine g_istore X130 hx (hb hby d7_71) (L' := #[.val (.ref b), .val (.ref lb), .val (.int (2 : Int32)), .val (.ref ae), .val (.int (1 : Int32)), .val (.int (0 : Int32)), .val (.int p0), .val (.int (1 : Int32))]) rfl (q := 73) rfl ?_
  refine g_goto X130 hx (hb hby d7_73) (by decide) (q := 21) (by decide) ?_
  refine g_iload X130 hx (hb hby d7_21) (v := (1 : Int32)) rfl (q := 23) rfl ?_
  refine g_iload X130 hx (hb hby d7_23) (v := (0 : Int32)) rfl (q := 25) rfl ?_
  refine g_icmp_gt X130 hx (hb hby d7_25) (by decide) (q := 76) (by decide) (q2 := 28) rfl (fun hb25 => ?_) (fun hb25 => absurd hb25 (by decide))
  refine g_iload X130 hx (hb hby d7_76) (v := p0) rfl (q := 78) rfl ?_
  exact g_retI X130 hx hret hlk (hb hby d7_78) ⟨rfl, rfl, e130⟩ (Nat.le_of_ble_eq_true rfl) (Nat.le_of_ble_eq_true rfl)
set_option maxRecDepth 65536 in
set_option maxHeartbeats 40000000 in
theorem rmF20 (l : Launch) (Z : State) (a0 : Array Value) (hw : ∀ d ∈ tables_1, d.before a0 Z = true) (b ae : Addr) (ev0 : Int64) (p0 : Int32) (ev1 : Int64) (p1 : Int32) (f : Nat → Value) (h0 : Heap) (E0 : Exa Z h0 b "com/example/newlyn/newlyn/storage/SegmentIndex") (F0 : Fld Z h0 b "com/example/newlyn/newlyn/storage/SegmentIndex" "entries" "[J" (.ref ae)) (F1 : Fld Z h0 b "com/example/newlyn/newlyn/storage/SegmentIndex" "count" "I" (.int (2 : Int32))) (V0 : Af Z h0 ae .long 32 f) (q0 : f (0 : Int32).toNatClampNeg = .long ev0) (r0 : ev0.toInt32 = p0) (o0 : own_off ev0 = (0 : Int64)) (q1 : f (2 : Int32).toNatClampNeg = .long ev1) (r1 : ev1.toInt32 = p1) (o1 : own_off ev1 = (1 : Int64)) :
    ConH l Z h0 (⟨"com/example/newlyn/newlyn/storage/SegmentIndex", "floorPosition", "(J)I"⟩ : MethodName) prog_23_method_4_code 3 (some .int) ({ frames := 3, cells := 1, slots := 1, locals := 3075 } : Room) #[(.ref b), (.long (0 : Int64))] (fun v h L => v = some (.int p0) ∧ L = [] ∧ Ext h0 h) := by
  refine con_ofH (plainFor_of_name pn_1) (Ls := #[.val (.ref b), .val (.long (0 : Int64)), .second]) (fun m => by first | (simp [entryFrame, mkF, argsToLocals, Value.category]; done) | rfl) ?_
  intro p e s m below meth c s₁ hx hH hby hml hret hlk hnm hown hnamed X0 e0
  have hZ := hH.wide
  refine g_aloadN X0 hx (hb hby d6_0) (v := (.ref b)) rfl rfl (q := 1) rfl ?_
  refine g_lloadN X0 hx (hb hby d6_1) (v := (0 : Int64)) rfl (q := 2) rfl ?_
  refine g_lambda X0 hx hH hnamed (hw _ (List.mem_of_getElem? (i := 32) rfl)) (hw _ (List.mem_of_getElem? (i := 35) rfl)) e0 (by exact hml.symm) (hb hby d6_2) (Nat.le_of_ble_eq_true rfl) (Nat.le_of_ble_eq_true rfl) (Nat.le_of_ble_eq_true rfl) fun T131 h131 lb g131 X131 e131 E131 L131 => ?_
  have f132 := (E0.ext E131)
  have f133 := (F0.ext E131)
  have f134 := (F1.ext E131)
  have f135 := (V0.ext E131)
  refine g_callPH X131 hx hH hown (hw _ (List.mem_of_getElem? (i := 36) rfl)) (hw _ (List.mem_of_getElem? (i := 37) rfl)) (hw _ (List.mem_of_getElem? (i := 38) rfl)) (hw _ (List.mem_of_getElem? (i := 9) rfl)) (hw _ (List.mem_of_getElem? (i := 39) rfl)) (hw _ (List.mem_of_getElem? (i := 10) rfl)) (by decide) e131 f132 (rmLP20 l Z a0 hw b ae lb ev0 p0 ev1 p1 f h131 f132 f133 f134 f135 L131 q0 r0 o0 q1 r1 o1) (by exact hml.symm) (argsL := [(.ref lb)]) (rest := []) rfl rfl pd_1 rfl (Nat.le_of_ble_eq_true rfl) (Nat.le_of_ble_eq_true rfl) (Nat.le_of_ble_eq_true rfl) (Nat.le_of_ble_eq_true rfl) (hb hby d6_7) (q := 10) rfl (fun v136 T136 L136 X136 hQ136 => ?_)
  obtain ⟨rfl, rfl, e136⟩ := hQ136
  show Go p e below _ (T136.setTop (mkF m 10 #[.val (.ref b), .val (.long (0 : Int64)), .second] [(.int p0)]))
  exact g_retI X136 hx hret hlk (hb hby d6_10) ⟨rfl, by simp, by rw [e136]; exact E131⟩ (Nat.le_of_ble_eq_true rfl) (Nat.le_of_ble_eq_true rfl)
set_option maxRecDepth 65536 in
set_option maxHeartbeats 40000000 in
theorem rmLP21 (l : Launch) (Z : State) (a0 : Array Value) (hw : ∀ d ∈ tables_1, d.before a0 Z = true) (b ae lb : Addr) (ev0 : Int64) (p0 : Int32) (ev1 : Int64) (p1 : Int32) (f : Nat → Value) (h0 : Heap) (E0 : Exa Z h0 b "com/example/newlyn/newlyn/storage/SegmentIndex") (F0 : Fld Z h0 b "com/example/newlyn/newlyn/storage/SegmentIndex" "entries" "[J" (.ref ae)) (F1 : Fld Z h0 b "com/example/newlyn/newlyn/storage/SegmentIndex" "count" "I" (.int (2 : Int32))) (V0 : Af Z h0 ae .long 32 f) (L0 : Lob Z h0 lb (1 : Int64)) (q0 : f (0 : Int32).toNatClampNeg = .long ev0) (r0 : ev0.toInt32 = p0) (o0 : own_off ev0 = (0 : Int64)) (q1 : f (2 : Int32).toNatClampNeg = .long ev1) (r1 : ev1.toInt32 = p1) (o1 : own_off ev1 = (1 : Int64)) :
    ConH l Z h0 (⟨"com/example/newlyn/newlyn/storage/SegmentIndex", "lastPosition", "(Lcom/example/newlyn/newlyn/storage/SegmentIndex$EntryTest;)I"⟩ : MethodName) prog_23_method_6_code 8 (some .int) ({ frames := 2, cells := 0, slots := 0, locals := 29 } : Room) #[(.ref b), (.ref lb)] (Pur (some (.int p1)) h0) := by
  refine con_ofH (plainFor_of_name pn_1) (Ls := #[.val (.ref b), .val (.ref lb), .unset, .unset, .unset, .unset, .unset, .unset]) (fun m => by first | (simp [entryFrame, mkF, argsToLocals, Value.category]; done) | rfl) ?_
  intro p e s m below meth c s₁ hx hH hby hml hret hlk hnm hown hnamed X0 e0
  have hZ := hH.wide
  refine g_aloadN X0 hx (hb hby d7_0) (v := (.ref b)) rfl rfl (q := 1) rfl ?_
  refine g_getF X0 hx hZ hown (hw _ (List.mem_of_getElem? (i := 25) rfl)) Via.refl e0 F1 (hb hby d7_1) (q := 4) rfl fun T137 X137 e137 => ?_
  refine g_istoreN X137 hx (hb hby d7_4) (L' := #[.val (.ref b), .val (.ref lb), .val (.int (2 : Int32)), .unset, .unset, .unset, .unset, .unset]) rfl (q := 5) rfl ?_
  refine g_aloadN X137 hx (hb hby d7_5) (v := (.ref b)) rfl rfl (q := 6) rfl ?_
  refine g_getF X137 hx hZ hown (hw _ (List.mem_of_getElem? (i := 18) rfl)) Via.refl e137 F0 (hb hby d7_6) (q := 9) rfl fun T138 X138 e138 => ?_
  refine g_astoreN X138 hx (hb hby d7_9) rfl (L' := #[.val (.ref b), .val (.ref lb), .val (.int (2 : Int32)), .val (.ref ae), .unset, .unset, .unset, .unset]) rfl (q := 10) rfl ?_
  refine g_iconst X138 hx (hb hby d7_10) (n := (0 : Int32)) (by decide) (q := 11) rfl ?_
  refine g_istore X138 hx (hb hby d7_11) (L' := #[.val (.ref b), .val (.ref lb), .val (.int (2 : Int32)), .val (.ref ae), .val (.int (0 : Int32)), .unset, .unset, .unset]) rfl (q := 13) rfl ?_
  refine g_iloadN X138 hx (hb hby d7_13) (v := (2 : Int32)) rfl (q := 14) rfl ?_
  refine g_iconst X138 hx (hb hby d7_14) (n := (1 : Int32)) (by decide) (q := 15) rfl ?_
  refine g_isub X138 hx (hb hby d7_15) (z := (1 : Int32)) (by decide) (q := 16) rfl ?_
  refine g_istore X138 hx (hb hby d7_16) (L' := #[.val (.ref b), .val (.ref lb), .val (.int (2 : Int32)), .val (.ref ae), .val (.int (0 : Int32)), .val (.int (1 : Int32)), .unset, .unset]) rfl (q := 18) rfl ?_
  refine g_iconst X138 hx (hb hby d7_18) (n := (0 : Int32)) (by decide) (q := 19) rfl ?_
  refine g_istore X138 hx (hb hby d7_19) (L' := #[.val (.ref b), .val (.ref lb), .val (.int (2 : Int32)), .val (.ref ae), .val (.int (0 : Int32)), .val (.int (1 : Int32)), .val (.int (0 : Int32)), .unset]) rfl (q := 21) rfl ?_
  refine g_iload X138 hx (hb hby d7_21) (v := (0 : Int32)) rfl (q := 23) rfl ?_
  refine g_iload X138 hx (hb hby d7_23) (v := (1 : Int32)) rfl (q := 25) rfl ?_
  refine g_icmp_gt X138 hx (hb hby d7_25) (by decide) (q := 76) (by decide) (q2 := 28) rfl (fun hb25 => absurd hb25 (by decide)) (fun hb25 => ?_)
  refine g_iload X138 hx (hb hby d7_28) (v := (0 : Int32)) rfl (q := 30) rfl ?_
  refine g_iload X138 hx (hb hby d7_30) (v := (1 : Int32)) rfl (q := 32) rfl ?_
  refine g_iadd X138 hx (hb hby d7_32) (z := (1 : Int32)) (by decide) (q := 33) rfl ?_
  refine g_iconst X138 hx (hb hby d7_33) (n := (1 : Int32)) (by decide) (q := 34) rfl ?_
  refine g_iushr X138 hx (hb hby d7_34) (z := (0 : Int32)) (by decide) (q := 35) rfl ?_
  refine g_istore X138 hx (hb hby d7_35) (L' := #[.val (.ref b), .val (.ref lb), .val (.int (2 : Int32)), .val (.ref ae), .val (.int (0 : Int32)), .val (.int (1 : Int32)), .val (.int (0 : Int32)), .val (.int (0 : Int32))]) rfl (q := 37) rfl ?_
  refine g_aloadN X138 hx (hb hby d7_37) (v := (.ref lb)) rfl rfl (q := 38) rfl ?_
  refine g_aloadN X138 hx (hb hby d7_38) (v := (.ref ae)) rfl rfl (q := 39) rfl ?_
  refine g_iload X138 hx (hb hby d7_39) (v := (0 : Int32)) rfl (q := 41) rfl ?_
  refine g_test X138 hx hH hown (hw _ (List.mem_of_getElem? (i := 53) rfl)) (hw _ (List.mem_of_getElem? (i := 54) rfl)) (hw _ (List.mem_of_getElem? (i := 55) rfl)) (hw _ (List.mem_of_getElem? (i := 32) rfl)) (hw _ (List.mem_of_getElem? (i := 35) rfl)) (hw _ (List.mem_of_getElem? (i := 57) rfl)) (hw _ (List.mem_of_getElem? (i := 56) rfl)) (hw _ (List.mem_of_getElem? (i := 10) rfl)) e138 (r0 := (1 : Int32)) L0 (by decide) (rmL l Z a0 hw (1 : Int64) ae (0 : Int32) (0 : Int32) ev0 (0 : Int64) f h0 (by decide) (by decide) (by decide) q0 o0 V0 (1 : Int32) (by decide)) (by exact hml.symm) (Nat.le_of_ble_eq_true rfl) (Nat.le_of_ble_eq_true rfl) (Nat.le_of_ble_eq_true rfl) (Nat.le_of_ble_eq_true rfl) (hb hby d7_41) (q := 46) rfl fun T139 X139 e139 => ?_
  refine g_if_eq X139 hx (hb hby d7_46) (by decide) (q := 67) (by decide) (q2 := 49) rfl (fun hb46 => absurd hb46 (by decide)) (fun hb46 => ?_)
  refine g_aloadN X139 hx (hb hby d7_49) (v := (.ref ae)) rfl rfl (q := 50) rfl ?_
  refine g_iload X139 hx (hb hby d7_50) (v := (0 : Int32)) rfl (q := 52) rfl ?_
  refine g_iconst X139 hx (hb hby d7_52) (n := (2 : Int32)) (by decide) (q := 53) rfl ?_
  refine g_imul X139 hx (hb hby d7_53) (z := (0 : Int32)) (by decide) (q := 54) rfl ?_
  refine g_laload X139 hx hZ e139 V0 (by decide) (by decide) (v := (.long ev0)) q0 (hb hby d7_54) (q := 55) rfl ?_
  refine g_l2i X139 hx (hb hby d7_55) (z := p0) r0 (q := 56) rfl ?_
  refine g_istore X139 hx (hb hby d7_56) (L' := #[.val (.ref b), .val (.ref lb), .val (.int (2 : Int32)), .val (.ref ae), .val (.int (0 : Int32)), .val (.int (1 : Int32)), .val (.int p0), .val (.int (0 : Int32))]) rfl (q := 58) rfl ?_
  refine g_iload X139 hx (hb hby d7_58) (v := (0 : Int32)) rfl (q := 60) rfl ?_
  refine g_iconst X139 hx (hb hby d7_60) (n := (1 : Int32)) (by decide) (q := 61) rfl ?_
  refine g_iadd X139 hx (hb hby d7_61) (z := (1 : Int32)) (by decide) (q := 62) rfl ?_
  refine g_istore X139 hx (hb hby d7_62) (L' := #[.val (.ref b), .val (.ref lb), .val (.int (2 : Int32)), .val (.ref ae), .val (.int (1 : Int32)), .val (.int (1 : Int32)), .val (.int p0), .val (.int (0 : Int32))]) rfl (q := 64) rfl ?_
  refine g_goto X139 hx (hb hby d7_64) (by decide) (q := 73) (by decide) ?_
  refine g_goto X139 hx (hb hby d7_73) (by decide) (q := 21) (by decide) ?_
  refine g_iload X139 hx (hb hby d7_21) (v := (1 : Int32)) rfl (q := 23) rfl ?_
  refine g_iload X139 hx (hb hby d7_23) (v := (1 : Int32)) rfl (q := 25) rfl ?_
  refine g_icmp_gt X139 hx (hb hby d7_25) (by decide) (q := 76) (by decide) (q2 := 28) rfl (fun hb25 => absurd hb25 (by decide)) (fun hb25 => ?_)
  refine g_iload X139 hx (hb hby d7_28) (v := (1 : Int32)) rfl (q := 30) rfl ?_
  refine g_iload X139 hx (hb hby d7_30) (v := (1 : Int32)) rfl (q := 32) rfl ?_
  refine g_iadd X139 hx (hb hby d7_32) (z := (2 : Int32)) (by decide) (q := 33) rfl ?_
  refine g_iconst X139 hx (hb hby d7_33) (n := (1 : Int32)) (by decide) (q := 34) rfl ?_
  refine g_iushr X139 hx (hb hby d7_34) (z := (1 : Int32)) (by decide) (q := 35) rfl ?_
  refine g_istore X139 hx (hb hby d7_35) (L' := #[.val (.ref b), .val (.ref lb), .val (.int (2 : Int32)), .val (.ref ae), .val (.int (1 : Int32)), .val (.int (1 : Int32)), .val (.int p0), .val (.int (1 : Int32))]) rfl (q := 37) rfl ?_
  refine g_aloadN X139 hx (hb hby d7_37) (v := (.ref lb)) rfl rfl (q := 38) rfl ?_
  refine g_aloadN X139 hx (hb hby d7_38) (v := (.ref ae)) rfl rfl (q := 39) rfl ?_
  refine g_iload X139 hx (hb hby d7_39) (v := (1 : Int32)) rfl (q := 41) rfl ?_
  refine g_test X139 hx hH hown (hw _ (List.mem_of_getElem? (i := 53) rfl)) (hw _ (List.mem_of_getElem? (i := 54) rfl)) (hw _ (List.mem_of_getElem? (i := 55) rfl)) (hw _ (List.mem_of_getElem? (i := 32) rfl)) (hw _ (List.mem_of_getElem? (i := 35) rfl)) (hw _ (List.mem_of_getElem? (i := 57) rfl)) (hw _ (List.mem_of_getElem? (i := 56) rfl)) (hw _ (List.mem_of_getElem? (i := 10) rfl)) e139 (r0 := (1 : Int32)) L0 (by decide) (rmL l Z a0 hw (1 : Int64) ae (1 : Int32) (2 : Int32) ev1 (1 : Int64) f h0 (by decide) (by decide) (by decide) q1 o1 V0 (1 : Int32) (by decide)) (by exact hml.symm) (Nat.le_of_ble_eq_true rfl) (Nat.le_of_ble_eq_true rfl) (Nat.le_of_ble_eq_true rfl) (Nat.le_of_ble_eq_true rfl) (hb hby d7_41) (q := 46) rfl fun T140 X140 e140 => ?_
  refine g_if_eq X140 hx (hb hby d7_46) (by decide) (q := 67) (by decide) (q2 := 49) rfl (fun hb46 => absurd hb46 (by decide)) (fun hb46 => ?_)
  refine g_aloadN X140 hx (hb hby d7_49) (v := (.ref ae)) rfl rfl (q := 50) rfl ?_
  refine g_iload X140 hx (hb hby d7_50) (v := (1 : Int32)) rfl (q := 52) rfl ?_
  refine g_iconst X140 hx (hb hby d7_52) (n := (2 : Int32)) (by decide) (q := 53) rfl ?_
  refine g_imul X140 hx (hb hby d7_53) (z := (2 : Int32)) (by decide) (q := 54) rfl ?_
  refine g_laload X140 hx hZ e140 V0 (by decide) (by decide) (v := (.long ev1)) q1 (hb hby d7_54) (q := 55) rfl ?_
  refine g_l2i X140 hx (hb hby d7_55) (z := p1) r1 (q := 56) rfl ?_
  refine g_istore X140 hx (hb hby d7_56) (L' := #[.val (.ref b), .val (.ref lb), .val (.int (2 : Int32)), .val (.ref ae), .val (.int (1 : Int32)), .val (.int (1 : Int32)), .val (.int p1), .val (.int (1 : Int32))]) rfl (q := 58) rfl ?_
  refine g_iload X140 hx (hb hby d7_58) (v := (1 : Int32)) rfl (q := 60) rfl ?_
  refine g_iconst X140 hx (hb hby d7_60) (n := (1 : Int32)) (by decide) (q := 61) rfl ?_
  refine g_iadd X140 hx (hb hby d7_61) (z := (2 : Int32)) (by decide) (q := 62) rfl ?_
  refine g_istore X140 hx (hb hby d7_62) (L' := #[.val (.ref b), .val (.ref lb), .val (.int (2 : Int32)), .val (.ref ae), .val (.int (2 : Int32)), .val (.int (1 : Int32)), .val (.int p1), .val (.int (1 : Int32))]) rfl (q := 64) rfl ?_
  refine g_goto X140 hx (hb hby d7_64) (by decide) (q := 73) (by decide) ?_
  refine g_goto X140 hx (hb hby d7_73) (by decide) (q := 21) (by decide) ?_
  refine g_iload X140 hx (hb hby d7_21) (v := (2 : Int32)) rfl (q := 23) rfl ?_
  refine g_iload X140 hx (hb hby d7_23) (v := (1 : Int32)) rfl (q := 25) rfl ?_
  refine g_icmp_gt X140 hx (hb hby d7_25) (by decide) (q := 76) (by decide) (q2 := 28) rfl (fun hb25 => ?_) (fun hb25 => absurd hb25 (by decide))
  refine g_iload X140 hx (hb hby d7_76) (v := p1) rfl (q := 78) rfl ?_
  exact g_retI X140 hx hret hlk (hb hby d7_78) ⟨rfl, rfl, e140⟩ (Nat.le_of_ble_eq_true rfl) (Nat.le_of_ble_eq_true rfl)
set_option maxRecDepth 65536 in
set_option maxHeartbeats 40000000 in
theorem rmF21 (l : Launch) (Z : State) (a0 : Array Value) (hw : ∀ d ∈ tables_1, d.before a0 Z = true) (b ae : Addr) (ev0 : Int64) (p0 : Int32) (ev1 : Int64) (p1 : Int32) (f : Nat → Value) (h0 : Heap) (E0 : Exa Z h0 b "com/example/newlyn/newlyn/storage/SegmentIndex") (F0 : Fld Z h0 b "com/example/newlyn/newlyn/storage/SegmentIndex" "entries" "[J" (.ref ae)) (F1 : Fld Z h0 b "com/example/newlyn/newlyn/storage/SegmentIndex" "count" "I" (.int (2 : Int32))) (V0 : Af Z h0 ae .long 32 f) (q0 : f (0 : Int32).toNatClampNeg = .long ev0) (r0 : ev0.toInt32 = p0) (o0 : own_off ev0 = (0 : Int64)) (q1 : f (2 : Int32).toNatClampNeg = .long ev1) (r1 : ev1.toInt32 = p1) (o1 : own_off ev1 = (1 : Int64)) :
    ConH l Z h0 (⟨"com/example/newlyn/newlyn/storage/SegmentIndex", "floorPosition", "(J)I"⟩ : MethodName) prog_23_method_4_code 3 (some .int) ({ frames := 3, cells := 1, slots := 1, locals := 3075 } : Room) #[(.ref b), (.long (1 : Int64))] (fun v h L => v = some (.int p1) ∧ L = [] ∧ Ext h0 h) := by
  refine con_ofH (plainFor_of_name pn_1) (Ls := #[.val (.ref b), .val (.long (1 : Int64)), .second]) (fun m => by first | (simp [entryFrame, mkF, argsToLocals, Value.category]; done) | rfl) ?_
  intro p e s m below meth c s₁ hx hH hby hml hret hlk hnm hown hnamed X0 e0
  have hZ := hH.wide
  refine g_aloadN X0 hx (hb hby d6_0) (v := (.ref b)) rfl rfl (q := 1) rfl ?_
  refine g_lloadN X0 hx (hb hby d6_1) (v := (1 : Int64)) rfl (q := 2) rfl ?_
  refine g_lambda X0 hx hH hnamed (hw _ (List.mem_of_getElem? (i := 32) rfl)) (hw _ (List.mem_of_getElem? (i := 35) rfl)) e0 (by exact hml.symm) (hb hby d6_2) (Nat.le_of_ble_eq_true rfl) (Nat.le_of_ble_eq_true rfl) (Nat.le_of_ble_eq_true rfl) fun T141 h141 lb g141 X141 e141 E141 L141 => ?_
  have f142 := (E0.ext E141)
  have f143 := (F0.ext E141)
  have f144 := (F1.ext E141)
  have f145 := (V0.ext E141)
  refine g_callPH X141 hx hH hown (hw _ (List.mem_of_getElem? (i := 36) rfl)) (hw _ (List.mem_of_getElem? (i := 37) rfl)) (hw _ (List.mem_of_getElem? (i := 38) rfl)) (hw _ (List.mem_of_getElem? (i := 9) rfl)) (hw _ (List.mem_of_getElem? (i := 39) rfl)) (hw _ (List.mem_of_getElem? (i := 10) rfl)) (by decide) e141 f142 (rmLP21 l Z a0 hw b ae lb ev0 p0 ev1 p1 f h141 f142 f143 f144 f145 L141 q0 r0 o0 q1 r1 o1) (by exact hml.symm) (argsL := [(.ref lb)]) (rest := []) rfl rfl pd_1 rfl (Nat.le_of_ble_eq_true rfl) (Nat.le_of_ble_eq_true rfl) (Nat.le_of_ble_eq_true rfl) (Nat.le_of_ble_eq_true rfl) (hb hby d6_7) (q := 10) rfl (fun v146 T146 L146 X146 hQ146 => ?_)
  obtain ⟨rfl, rfl, e146⟩ := hQ146
  show Go p e below _ (T146.setTop (mkF m 10 #[.val (.ref b), .val (.long (1 : Int64)), .second] [(.int p1)]))
  exact g_retI X146 hx hret hlk (hb hby d6_10) ⟨rfl, by simp, by rw [e146]; exact E141⟩ (Nat.le_of_ble_eq_true rfl) (Nat.le_of_ble_eq_true rfl)
set_option maxRecDepth 65536 in
set_option maxHeartbeats 40000000 in
theorem rmLP22 (l : Launch) (Z : State) (a0 : Array Value) (hw : ∀ d ∈ tables_1, d.before a0 Z = true) (b ae lb : Addr) (ev0 : Int64) (p0 : Int32) (ev1 : Int64) (p1 : Int32) (f : Nat → Value) (h0 : Heap) (E0 : Exa Z h0 b "com/example/newlyn/newlyn/storage/SegmentIndex") (F0 : Fld Z h0 b "com/example/newlyn/newlyn/storage/SegmentIndex" "entries" "[J" (.ref ae)) (F1 : Fld Z h0 b "com/example/newlyn/newlyn/storage/SegmentIndex" "count" "I" (.int (2 : Int32))) (V0 : Af Z h0 ae .long 32 f) (L0 : Lob Z h0 lb (2 : Int64)) (q0 : f (0 : Int32).toNatClampNeg = .long ev0) (r0 : ev0.toInt32 = p0) (o0 : own_off ev0 = (0 : Int64)) (q1 : f (2 : Int32).toNatClampNeg = .long ev1) (r1 : ev1.toInt32 = p1) (o1 : own_off ev1 = (1 : Int64)) :
    ConH l Z h0 (⟨"com/example/newlyn/newlyn/storage/SegmentIndex", "lastPosition", "(Lcom/example/newlyn/newlyn/storage/SegmentIndex$EntryTest;)I"⟩ : MethodName) prog_23_method_6_code 8 (some .int) ({ frames := 2, cells := 0, slots := 0, locals := 29 } : Room) #[(.ref b), (.ref lb)] (Pur (some (.int p1)) h0) := by
  refine con_ofH (plainFor_of_name pn_1) (Ls := #[.val (.ref b), .val (.ref lb), .unset, .unset, .unset, .unset, .unset, .unset]) (fun m => by first | (simp [entryFrame, mkF, argsToLocals, Value.category]; done) | rfl) ?_
  intro p e s m below meth c s₁ hx hH hby hml hret hlk hnm hown hnamed X0 e0
  have hZ := hH.wide
  refine g_aloadN X0 hx (hb hby d7_0) (v := (.ref b)) rfl rfl (q := 1) rfl ?_
  refine g_getF X0 hx hZ hown (hw _ (List.mem_of_getElem? (i := 25) rfl)) Via.refl e0 F1 (hb hby d7_1) (q := 4) rfl fun T147 X147 e147 => ?_
  refine g_istoreN X147 hx (hb hby d7_4) (L' := #[.val (.ref b), .val (.ref lb), .val (.int (2 : Int32)), .unset, .unset, .unset, .unset, .unset]) rfl (q := 5) rfl ?_
  refine g_aloadN X147 hx (hb hby d7_5) (v := (.ref b)) rfl rfl (q := 6) rfl ?_
  refine g_getF X147 hx hZ hown (hw _ (List.mem_of_getElem? (i := 18) rfl)) Via.refl e147 F0 (hb hby d7_6) (q := 9) rfl fun T148 X148 e148 => ?_
  refine g_astoreN X148 hx (hb hby d7_9) rfl (L' := #[.val (.ref b), .val (.ref lb), .val (.int (2 : Int32)), .val (.ref ae), .unset, .unset, .unset, .unset]) rfl (q := 10) rfl ?_
  refine g_iconst X148 hx (hb hby d7_10) (n := (0 : Int32)) (by decide) (q := 11) rfl ?_
  refine g_istore X148 hx (hb hby d7_11) (L' := #[.val (.ref b), .val (.ref lb), .val (.int (2 : Int32)), .val (.ref ae), .val (.int (0 : Int32)), .unset, .unset, .unset]) rfl (q := 13) rfl ?_
  refine g_iloadN X148 hx (hb hby d7_13) (v := (2 : Int32)) rfl (q := 14) rfl ?_
  refine g_iconst X148 hx (hb hby d7_14) (n := (1 : Int32)) (by decide) (q := 15) rfl ?_
  refine g_isub X148 hx (hb hby d7_15) (z := (1 : Int32)) (by decide) (q := 16) rfl ?_
  refine g_istore X148 hx (hb hby d7_16) (L' := #[.val (.ref b), .val (.ref lb), .val (.int (2 : Int32)), .val (.ref ae), .val (.int (0 : Int32)), .val (.int (1 : Int32)), .unset, .unset]) rfl (q := 18) rfl ?_
  refine g_iconst X148 hx (hb hby d7_18) (n := (0 : Int32)) (by decide) (q := 19) rfl ?_
  refine g_istore X148 hx (hb hby d7_19) (L' := #[.val (.ref b), .val (.ref lb), .val (.int (2 : Int32)), .val (.ref ae), .val (.int (0 : Int32)), .val (.int (1 : Int32)), .val (.int (0 : Int32)), .unset]) rfl (q := 21) rfl ?_
  refine g_iload X148 hx (hb hby d7_21) (v := (0 : Int32)) rfl (q := 23) rfl ?_
  refine g_iload X148 hx (hb hby d7_23) (v := (1 : Int32)) rfl (q := 25) rfl ?_
  refine g_icmp_gt X148 hx (hb hby d7_25) (by decide) (q := 76) (by decide) (q2 := 28) rfl (fun hb25 => absurd hb25 (by decide)) (fun hb25 => ?_)
  refine g_iload X148 hx (hb hby d7_28) (v := (0 : Int32)) rfl (q := 30) rfl ?_
  refine g_iload X148 hx (hb hby d7_30) (v := (1 : Int32)) rfl (q := 32) rfl ?_
  refine g_iadd X148 hx (hb hby d7_32) (z := (1 : Int32)) (by decide) (q := 33) rfl ?_
  refine g_iconst X148 hx (hb hby d7_33) (n := (1 : Int32)) (by decide) (q := 34) rfl ?_
  refine g_iushr X148 hx (hb hby d7_34) (z := (0 : Int32)) (by decide) (q := 35) rfl ?_
  refine g_istore X148 hx (hb hby d7_35) (L' := #[.val (.ref b), .val (.ref lb), .val (.int (2 : Int32)), .val (.ref ae), .val (.int (0 : Int32)), .val (.int (1 : Int32)), .val (.int (0 : Int32)), .val (.int (0 : Int32))]) rfl (q := 37) rfl ?_
  refine g_aloadN X148 hx (hb hby d7_37) (v := (.ref lb)) rfl rfl (q := 38) rfl ?_
  refine g_aloadN X148 hx (hb hby d7_38) (v := (.ref ae)) rfl rfl (q := 39) rfl ?_
  refine g_iload X148 hx (hb hby d7_39) (v := (0 : Int32)) rfl (q := 41) rfl ?_
  refine g_test X148 hx hH hown (hw _ (List.mem_of_getElem? (i := 53) rfl)) (hw _ (List.mem_of_getElem? (i := 54) rfl)) (hw _ (List.mem_of_getElem? (i := 55) rfl)) (hw _ (List.mem_of_getElem? (i := 32) rfl)) (hw _ (List.mem_of_getElem? (i := 35) rfl)) (hw _ (List.mem_of_getElem? (i := 57) rfl)) (hw _ (List.mem_of_getElem? (i := 56) rfl)) (hw _ (List.mem_of_getElem? (i := 10) rfl)) e148 (r0 := (1 : Int32)) L0 (by decide) (rmL l Z a0 hw (2 : Int64) ae (0 : Int32) (0 : Int32) ev0 (0 : Int64) f h0 (by decide) (by decide) (by decide) q0 o0 V0 (1 : Int32) (by decide)) (by exact hml.symm) (Nat.le_of_ble_eq_true rfl) (Nat.le_of_ble_eq_true rfl) (Nat.le_of_ble_eq_true rfl) (Nat.le_of_ble_eq_true rfl) (hb hby d7_41) (q := 46) rfl fun T149 X149 e149 => ?_
  refine g_if_eq X149 hx (hb hby d7_46) (by decide) (q := 67) (by decide) (q2 := 49) rfl (fun hb46 => absurd hb46 (by decide)) (fun hb46 => ?_)
  refine g_aloadN X149 hx (hb hby d7_49) (v := (.ref ae)) rfl rfl (q := 50) rfl ?_
  refine g_iload X149 hx (hb hby d7_50) (v := (0 : Int32)) rfl (q := 52) rfl ?_
  refine g_iconst X149 hx (hb hby d7_52) (n := (2 : Int32)) (by decide) (q := 53) rfl ?_
  refine g_imul X149 hx (hb hby d7_53) (z := (0 : Int32)) (by decide) (q := 54) rfl ?_
  refine g_laload X149 hx hZ e149 V0 (by decide) (by decide) (v := (.long ev0)) q0 (hb hby d7_54) (q := 55) rfl ?_
  refine g_l2i X149 hx (hb hby d7_55) (z := p0) r0 (q := 56) rfl ?_
  refine g_istore X149 hx (hb hby d7_56) (L' := #[.val (.ref b), .val (.ref lb), .val (.int (2 : Int32)), .val (.ref ae), .val (.int (0 : Int32)), .val (.int (1 : Int32)), .val (.int p0), .val (.int (0 : Int32))]) rfl (q := 58) rfl ?_
  refine g_iload X149 hx (hb hby d7_58) (v := (0 : Int32)) rfl (q := 60) rfl ?_
  refine g_iconst X149 hx (hb hby d7_60) (n := (1 : Int32)) (by decide) (q := 61) rfl ?_
  refine g_iadd X149 hx (hb hby d7_61) (z := (1 : Int32)) (by decide) (q := 62) rfl ?_
  refine g_istore X149 hx (hb hby d7_62) (L' := #[.val (.ref b), .val (.ref lb), .val (.int (2 : Int32)), .val (.ref ae), .val (.int (1 : Int32)), .val (.int (1 : Int32)), .val (.int p0), .val (.int (0 : Int32))]) rfl (q := 64) rfl ?_
  refine g_goto X149 hx (hb hby d7_64) (by decide) (q := 73) (by decide) ?_
  refine g_goto X149 hx (hb hby d7_73) (by decide) (q := 21) (by decide) ?_
  refine g_iload X149 hx (hb hby d7_21) (v := (1 : Int32)) rfl (q := 23) rfl ?_
  refine g_iload X149 hx (hb hby d7_23) (v := (1 : Int32)) rfl (q := 25) rfl ?_
  refine g_icmp_gt X149 hx (hb hby d7_25) (by decide) (q := 76) (by decide) (q2 := 28) rfl (fun hb25 => absurd hb25 (by decide)) (fun hb25 => ?_)
  refine g_iload X149 hx (hb hby d7_28) (v := (1 : Int32)) rfl (q := 30) rfl ?_
  refine g_iload X149 hx (hb hby d7_30) (v := (1 : Int32)) rfl (q := 32) rfl ?_
  refine g_iadd X149 hx (hb hby d7_32) (z := (2 : Int32)) (by decide) (q := 33) rfl ?_
  refine g_iconst X149 hx (hb hby d7_33) (n := (1 : Int32)) (by decide) (q := 34) rfl ?_
  refine g_iushr X149 hx (hb hby d7_34) (z := (1 : Int32)) (by decide) (q := 35) rfl ?_
  refine g_istore X149 hx (hb hby d7_35) (L' := #[.val (.ref b), .val (.ref lb), .val (.int (2 : Int32)), .val (.ref ae), .val (.int (1 : Int32)), .val (.int (1 : Int32)), .val (.int p0), .val (.int (1 : Int32))]) rfl (q := 37) rfl ?_
  refine g_aloadN X149 hx (hb hby d7_37) (v := (.ref lb)) rfl rfl (q := 38) rfl ?_
  refine g_aloadN X149 hx (hb hby d7_38) (v := (.ref ae)) rfl rfl (q := 39) rfl ?_
  refine g_iload X149 hx (hb hby d7_39) (v := (1 : Int32)) rfl (q := 41) rfl ?_
  refine g_test X149 hx hH hown (hw _ (List.mem_of_getElem? (i := 53) rfl)) (hw _ (List.mem_of_getElem? (i := 54) rfl)) (hw _ (List.mem_of_getElem? (i := 55) rfl)) (hw _ (List.mem_of_getElem? (i := 32) rfl)) (hw _ (List.mem_of_getElem? (i := 35) rfl)) (hw _ (List.mem_of_getElem? (i := 57) rfl)) (hw _ (List.mem_of_getElem? (i := 56) rfl)) (hw _ (List.mem_of_getElem? (i := 10) rfl)) e149 (r0 := (1 : Int32)) L0 (by decide) (rmL l Z a0 hw (2 : Int64) ae (1 : Int32) (2 : Int32) ev1 (1 : Int64) f h0 (by decide) (by decide) (by decide) q1 o1 V0 (1 : Int32) (by decide)) (by exact hml.symm) (Nat.le_of_ble_eq_true rfl) (Nat.le_of_ble_eq_true rfl) (Nat.le_of_ble_eq_true rfl) (Nat.le_of_ble_eq_true rfl) (hb hby d7_41) (q := 46) rfl fun T150 X150 e150 => ?_
  refine g_if_eq X150 hx (hb hby d7_46) (by decide) (q := 67) (by decide) (q2 := 49) rfl (fun hb46 => absurd hb46 (by decide)) (fun hb46 => ?_)
  refine g_aloadN X150 hx (hb hby d7_49) (v := (.ref ae)) rfl rfl (q := 50) rfl ?_
  refine g_iload X150 hx (hb hby d7_50) (v := (1 : Int32)) rfl (q := 52) rfl ?_
  refine g_iconst X150 hx (hb hby d7_52) (n := (2 : Int32)) (by decide) (q := 53) rfl ?_
  refine g_imul X150 hx (hb hby d7_53) (z := (2 : Int32)) (by decide) (q := 54) rfl ?_
  refine g_laload X150 hx hZ e150 V0 (by decide) (by decide) (v := (.long ev1)) q1 (hb hby d7_54) (q := 55) rfl ?_
  refine g_l2i X150 hx (hb hby d7_55) (z := p1) r1 (q := 56) rfl ?_
  refine g_istore X150 hx (hb hby d7_56) (L' := #[.val (.ref b), .val (.ref lb), .val (.int (2 : Int32)), .val (.ref ae), .val (.int (1 : Int32)), .val (.int (1 : Int32)), .val (.int p1), .val (.int (1 : Int32))]) rfl (q := 58) rfl ?_
  refine g_iload X150 hx (hb hby d7_58) (v := (1 : Int32)) rfl (q := 60) rfl ?_
  refine g_iconst X150 hx (hb hby d7_60) (n := (1 : Int32)) (by decide) (q := 61) rfl ?_
  refine g_iadd X150 hx (hb hby d7_61) (z := (2 : Int32)) (by decide) (q := 62) rfl ?_
  refine g_istore X150 hx (hb hby d7_62) (L' := #[.val (.ref b), .val (.ref lb), .val (.int (2 : Int32)), .val (.ref ae), .val (.int (2 : Int32)), .val (.int (1 : Int32)), .val (.int p1), .val (.int (1 : Int32))]) rfl (q := 64) rfl ?_
  refine g_goto X150 hx (hb hby d7_64) (by decide) (q := 73) (by decide) ?_
  refine g_goto X150 hx (hb hby d7_73) (by decide) (q := 21) (by decide) ?_
  refine g_iload X150 hx (hb hby d7_21) (v := (2 : Int32)) rfl (q := 23) rfl ?_
  refine g_iload X150 hx (hb hby d7_23) (v := (1 : Int32)) rfl (q := 25) rfl ?_
  refine g_icmp_gt X150 hx (hb hby d7_25) (by decide) (q := 76) (by decide) (q2 := 28) rfl (fun hb25 => ?_) (fun hb25 => absurd hb25 (by decide))
  refine g_iload X150 hx (hb hby d7_76) (v := p1) rfl (q := 78) rfl ?_
  exact g_retI X150 hx hret hlk (hb hby d7_78) ⟨rfl, rfl, e150⟩ (Nat.le_of_ble_eq_true rfl) (Nat.le_of_ble_eq_true rfl)
set_option maxRecDepth 65536 in
set_option maxHeartbeats 40000000 in
theorem rmF22 (l : Launch) (Z : State) (a0 : Array Value) (hw : ∀ d ∈ tables_1, d.before a0 Z = true) (b ae : Addr) (ev0 : Int64) (p0 : Int32) (ev1 : Int64) (p1 : Int32) (f : Nat → Value) (h0 : Heap) (E0 : Exa Z h0 b "com/example/newlyn/newlyn/storage/SegmentIndex") (F0 : Fld Z h0 b "com/example/newlyn/newlyn/storage/SegmentIndex" "entries" "[J" (.ref ae)) (F1 : Fld Z h0 b "com/example/newlyn/newlyn/storage/SegmentIndex" "count" "I" (.int (2 : Int32))) (V0 : Af Z h0 ae .long 32 f) (q0 : f (0 : Int32).toNatClampNeg = .long ev0) (r0 : ev0.toInt32 = p0) (o0 : own_off ev0 = (0 : Int64)) (q1 : f (2 : Int32).toNatClampNeg = .long ev1) (r1 : ev1.toInt32 = p1) (o1 : own_off ev1 = (1 : Int64)) :
    ConH l Z h0 (⟨"com/example/newlyn/newlyn/storage/SegmentIndex", "floorPosition", "(J)I"⟩ : MethodName) prog_23_method_4_code 3 (some .int) ({ frames := 3, cells := 1, slots := 1, locals := 3075 } : Room) #[(.ref b), (.long (2 : Int64))] (fun v h L => v = some (.int p1) ∧ L = [] ∧ Ext h0 h) := by
  refine con_ofH (plainFor_of_name pn_1) (Ls := #[.val (.ref b), .val (.long (2 : Int64)), .second]) (fun m => by first | (simp [entryFrame, mkF, argsToLocals, Value.category]; done) | rfl) ?_
  intro p e s m below meth c s₁ hx hH hby hml hret hlk hnm hown hnamed X0 e0
  have hZ := hH.wide
  refine g_aloadN X0 hx (hb hby d6_0) (v := (.ref b)) rfl rfl (q := 1) rfl ?_
  refine g_lloadN X0 hx (hb hby d6_1) (v := (2 : Int64)) rfl (q := 2) rfl ?_
  refine g_lambda X0 hx hH hnamed (hw _ (List.mem_of_getElem? (i := 32) rfl)) (hw _ (List.mem_of_getElem? (i := 35) rfl)) e0 (by exact hml.symm) (hb hby d6_2) (Nat.le_of_ble_eq_true rfl) (Nat.le_of_ble_eq_true rfl) (Nat.le_of_ble_eq_true rfl) fun T151 h151 lb g151 X151 e151 E151 L151 => ?_
  have f152 := (E0.ext E151)
  have f153 := (F0.ext E151)
  have f154 := (F1.ext E151)
  have f155 := (V0.ext E151)
  refine g_callPH X151 hx hH hown (hw _ (List.mem_of_getElem? (i := 36) rfl)) (hw _ (List.mem_of_getElem? (i := 37) rfl)) (hw _ (List.mem_of_getElem? (i := 38) rfl)) (hw _ (List.mem_of_getElem? (i := 9) rfl)) (hw _ (List.mem_of_getElem? (i := 39) rfl)) (hw _ (List.mem_of_getElem? (i := 10) rfl)) (by decide) e151 f152 (rmLP22 l Z a0 hw b ae lb ev0 p0 ev1 p1 f h151 f152 f153 f154 f155 L151 q0 r0 o0 q1 r1 o1) (by exact hml.symm) (argsL := [(.ref lb)]) (rest := []) rfl rfl pd_1 rfl (Nat.le_of_ble_eq_true rfl) (Nat.le_of_ble_eq_true rfl) (Nat.le_of_ble_eq_true rfl) (Nat.le_of_ble_eq_true rfl) (hb hby d6_7) (q := 10) rfl (fun v156 T156 L156 X156 hQ156 => ?_)
  obtain ⟨rfl, rfl, e156⟩ := hQ156
  show Go p e below _ (T156.setTop (mkF m 10 #[.val (.ref b), .val (.long (2 : Int64)), .second] [(.int p1)]))
  exact g_retI X156 hx hret hlk (hb hby d6_10) ⟨rfl, by simp, by rw [e156]; exact E151⟩ (Nat.le_of_ble_eq_true rfl) (Nat.le_of_ble_eq_true rfl)
set_option maxRecDepth 65536 in
set_option maxHeartbeats 40000000 in
theorem rmLP30 (l : Launch) (Z : State) (a0 : Array Value) (hw : ∀ d ∈ tables_1, d.before a0 Z = true) (b ae lb : Addr) (ev0 : Int64) (p0 : Int32) (ev1 : Int64) (p1 : Int32) (ev2 : Int64) (p2 : Int32) (f : Nat → Value) (h0 : Heap) (E0 : Exa Z h0 b "com/example/newlyn/newlyn/storage/SegmentIndex") (F0 : Fld Z h0 b "com/example/newlyn/newlyn/storage/SegmentIndex" "entries" "[J" (.ref ae)) (F1 : Fld Z h0 b "com/example/newlyn/newlyn/storage/SegmentIndex" "count" "I" (.int (3 : Int32))) (V0 : Af Z h0 ae .long 32 f) (L0 : Lob Z h0 lb (0 : Int64)) (q0 : f (0 : Int32).toNatClampNeg = .long ev0) (r0 : ev0.toInt32 = p0) (o0 : own_off ev0 = (0 : Int64)) (q1 : f (2 : Int32).toNatClampNeg = .long ev1) (r1 : ev1.toInt32 = p1) (o1 : own_off ev1 = (1 : Int64)) (q2 : f (4 : Int32).toNatClampNeg = .long ev2) (r2 : ev2.toInt32 = p2) (o2 : own_off ev2 = (2 : Int64)) :
    ConH l Z h0 (⟨"com/example/newlyn/newlyn/storage/SegmentIndex", "lastPosition", "(Lcom/example/newlyn/newlyn/storage/SegmentIndex$EntryTest;)I"⟩ : MethodName) prog_23_method_6_code 8 (some .int) ({ frames := 2, cells := 0, slots := 0, locals := 29 } : Room) #[(.ref b), (.ref lb)] (Pur (some (.int p0)) h0) := by
  refine con_ofH (plainFor_of_name pn_1) (Ls := #[.val (.ref b), .val (.ref lb), .unset, .unset, .unset, .unset, .unset, .unset]) (fun m => by first | (simp [entryFrame, mkF, argsToLocals, Value.category]; done) | rfl) ?_
  intro p e s m below meth c s₁ hx hH hby hml hret hlk hnm hown hnamed X0 e0
  have hZ := hH.wide
  refine g_aloadN X0 hx (hb hby d7_0) (v := (.ref b)) rfl rfl (q := 1) rfl ?_
  refine g_getF X0 hx hZ hown (hw _ (List.mem_of_getElem? (i := 25) rfl)) Via.refl e0 F1 (hb hby d7_1) (q := 4) rfl fun T157 X157 e157 => ?_
  refine g_istoreN X157 hx (hb hby d7_4) (L' := #[.val (.ref b), .val (.ref lb), .val (.int (3 : Int32)), .unset, .unset, .unset, .unset, .unset]) rfl (q := 5) rfl ?_
  refine g_aloadN X157 hx (hb hby d7_5) (v := (.ref b)) rfl rfl (q := 6) rfl ?_
  refine g_getF X157 hx hZ hown (hw _ (List.mem_of_getElem? (i := 18) rfl)) Via.refl e157 F0 (hb hby d7_6) (q := 9) rfl fun T158 X158 e158 => ?_
  refine g_astoreN X158 hx (hb hby d7_9) rfl (L' := #[.val (.ref b), .val (.ref lb), .val (.int (3 : Int32)), .val (.ref ae), .unset, .unset, .unset, .unset]) rfl (q := 10) rfl ?_
  refine g_iconst X158 hx (hb hby d7_10) (n := (0 : Int32)) (by decide) (q := 11) rfl ?_
  refine g_istore X158 hx (hb hby d7_11) (L' := #[.val (.ref b), .val (.ref lb), .val (.int (3 : Int32)), .val (.ref ae), .val (.int (0 : Int32)), .unset, .unset, .unset]) rfl (q := 13) rfl ?_
  refine g_iloadN X158 hx (hb hby d7_13) (v := (3 : Int32)) rfl (q := 14) rfl ?_
  refine g_iconst X158 hx (hb hby d7_14) (n := (1 : Int32)) (by decide) (q := 15) rfl ?_
  refine g_isub X158 hx (hb hby d7_15) (z := (2 : Int32)) (by decide) (q := 16) rfl ?_
  refine g_istore X158 hx (hb hby d7_16) (L' := #[.val (.ref b), .val (.ref lb), .val (.int (3 : Int32)), .val (.ref ae), .val (.int (0 : Int32)), .val (.int (2 : Int32)), .unset, .unset]) rfl (q := 18) rfl ?_
  refine g_iconst X158 hx (hb hby d7_18) (n := (0 : Int32)) (by decide) (q := 19) rfl ?_
  refine g_istore X158 hx (hb hby d7_19) (L' := #[.val (.ref b), .val (.ref lb), .val (.int (3 : Int32)), .val (.ref ae), .val (.int (0 : Int32)), .val (.int (2 : Int32)), .val (.int (0 : Int32)), .unset]) rfl (q := 21) rfl ?_
  refine g_iload X158 hx (hb hby d7_21) (v := (0 : Int32)) rfl (q := 23) rfl ?_
  refine g_iload X158 hx (hb hby d7_23) (v := (2 : Int32)) rfl (q := 25) rfl ?_
  refine g_icmp_gt X158 hx (hb hby d7_25) (by decide) (q := 76) (by decide) (q2 := 28) rfl (fun hb25 => absurd hb25 (by decide)) (fun hb25 => ?_)
  refine g_iload X158 hx (hb hby d7_28) (v := (0 : Int32)) rfl (q := 30) rfl ?_
  refine g_iload X158 hx (hb hby d7_30) (v := (2 : Int32)) rfl (q := 32) rfl ?_
  refine g_iadd X158 hx (hb hby d7_32) (z := (2 : Int32)) (by decide) (q := 33) rfl ?_
  refine g_iconst X158 hx (hb hby d7_33) (n := (1 : Int32)) (by decide) (q := 34) rfl ?_
  refine g_iushr X158 hx (hb hby d7_34) (z := (1 : Int32)) (by decide) (q := 35) rfl ?_
  refine g_istore X158 hx (hb hby d7_35) (L' := #[.val (.ref b), .val (.ref lb), .val (.int (3 : Int32)), .val (.ref ae), .val (.int (0 : Int32)), .val (.int (2 : Int32)), .val (.int (0 : Int32)), .val (.int (1 : Int32))]) rfl (q := 37) rfl ?_
  refine g_aloadN X158 hx (hb hby d7_37) (v := (.ref lb)) rfl rfl (q := 38) rfl ?_
  refine g_aloadN X158 hx (hb hby d7_38) (v := (.ref ae)) rfl rfl (q := 39) rfl ?_
  refine g_iload X158 hx (hb hby d7_39) (v := (1 : Int32)) rfl (q := 41) rfl ?_
  refine g_test X158 hx hH hown (hw _ (List.mem_of_getElem? (i := 53) rfl)) (hw _ (List.mem_of_getElem? (i := 54) rfl)) (hw _ (List.mem_of_getElem? (i := 55) rfl)) (hw _ (List.mem_of_getElem? (i := 32) rfl)) (hw _ (List.mem_of_getElem? (i := 35) rfl)) (hw _ (List.mem_of_getElem? (i := 57) rfl)) (hw _ (List.mem_of_getElem? (i := 56) rfl)) (hw _ (List.mem_of_getElem? (i := 10) rfl)) e158 (r0 := (0 : Int32)) L0 (by decide) (rmL l Z a0 hw (0 : Int64) ae (1 : Int32) (2 : Int32) ev1 (1 : Int64) f h0 (by decide) (by decide) (by decide) q1 o1 V0 (0 : Int32) (by decide)) (by exact hml.symm) (Nat.le_of_ble_eq_true rfl) (Nat.le_of_ble_eq_true rfl) (Nat.le_of_ble_eq_true rfl) (Nat.le_of_ble_eq_true rfl) (hb hby d7_41) (q := 46) rfl fun T159 X159 e159 => ?_
  refine g_if_eq X159 hx (hb hby d7_46) (by decide) (q := 67) (by decide) (q2 := 49) rfl (fun hb46 => ?_) (fun hb46 => absurd hb46 (by decide))
  refine g_iload X159 hx (hb hby d7_67) (v := (1 : Int32)) rfl (q := 69) rfl ?_
  refine g_iconst X159 hx (hb hby d7_69) (n := (1 : Int32)) (by decide) (q := 70) rfl ?_
  refine g_isub X159 hx (hb hby d7_70) (z := (0 : Int32)) (by decide) (q := 71) rfl ?_
  refine g_istore X159 hx (hb hby d7_71) (L' := #[.val (.ref b), .val (.ref lb), .val (.int (3 : Int32)), .val (.ref ae), .val (.int (0 : Int32)), .val (.int (0 : Int32)), .val (.int (0 : Int32)), .val (.int (1 : Int32))]) rfl (q := 73) rfl ?_
  refine g_goto X159 hx (hb hby d7_73) (by decide) (q := 21) (by decide) ?_
  refine g_iload X159 hx (hb hby d7_21) (v := (0 : Int32)) rfl (q := 23) rfl ?_
  refine g_iload X159 hx (hb hby d7_23) (v := (0 : Int32)) rfl (q := 25) rfl ?_
  refine g_icmp_gt X159 hx (hb hby d7_25) (by decide) (q := 76) (by decide) (q2 := 28) rfl (fun hb25 => absurd hb25 (by decide)) (fun hb25 => ?_)
  refine g_iload X159 hx (hb hby d7_28) (v := (0 : Int32)) rfl (q := 30) rfl ?_
  refine g_iload X159 hx (hb hby d7_30) (v := (0 : Int32)) rfl (q := 32) rfl ?_
  refine g_iadd X159 hx (hb hby d7_32) (z := (0 : Int32)) (by decide) (q := 33) rfl ?_
  refine g_iconst X159 hx (hb hby d7_33) (n := (1 : Int32)) (by decide) (q := 34) rfl ?_
  refine g_iushr X159 hx (hb hby d7_34) (z := (0 : Int32)) (by decide) (q := 35) rfl ?_
  refine g_istore X159 hx (hb hby d7_35) (L' := #[.val (.ref b), .val (.ref lb), .val (.int (3 : Int32)), .val (.ref ae), .val (.int (0 : Int32)), .val (.int (0 : Int32)), .val (.int (0 : Int32)), .val (.int (0 : Int32))]) rfl (q := 37) rfl ?_
  refine g_aloadN X159 hx (hb hby d7_37) (v := (.ref lb)) rfl rfl (q := 38) rfl ?_
  refine g_aloadN X159 hx (hb hby d7_38) (v := (.ref ae)) rfl rfl (q := 39) rfl ?_
  refine g_iload X159 hx (hb hby d7_39) (v := (0 : Int32)) rfl (q := 41) rfl ?_
  refine g_test X159 hx hH hown (hw _ (List.mem_of_getElem? (i := 53) rfl)) (hw _ (List.mem_of_getElem? (i := 54) rfl)) (hw _ (List.mem_of_getElem? (i := 55) rfl)) (hw _ (List.mem_of_getElem? (i := 32) rfl)) (hw _ (List.mem_of_getElem? (i := 35) rfl)) (hw _ (List.mem_of_getElem? (i := 57) rfl)) (hw _ (List.mem_of_getElem? (i := 56) rfl)) (hw _ (List.mem_of_getElem? (i := 10) rfl)) e159 (r0 := (1 : Int32)) L0 (by decide) (rmL l Z a0 hw (0 : Int64) ae (0 : Int32) (0 : Int32) ev0 (0 : Int64) f h0 (by decide) (by decide) (by decide) q0 o0 V0 (1 : Int32) (by decide)) (by exact hml.symm) (Nat.le_of_ble_eq_true rfl) (Nat.le_of_ble_eq_true rfl) (Nat.le_of_ble_eq_true rfl) (Nat.le_of_ble_eq_true rfl) (hb hby d7_41) (q := 46) rfl fun T160 X160 e160 => ?_
  refine g_if_eq X160 hx (hb hby d7_46) (by decide) (q := 67) (by decide) (q2 := 49) rfl (fun hb46 => absurd hb46 (by decide)) (fun hb46 => ?_)
  refine g_aloadN X160 hx (hb hby d7_49) (v := (.ref ae)) rfl rfl (q := 50) rfl ?_
  refine g_iload X160 hx (hb hby d7_50) (v := (0 : Int32)) rfl (q := 52) rfl ?_
  refine g_iconst X160 hx (hb hby d7_52) (n := (2 : Int32)) (by decide) (q := 53) rfl ?_
  refine g_imul X160 hx (hb hby d7_53) (z := (0 : Int32)) (by decide) (q := 54) rfl ?_
  refine g_laload X160 hx hZ e160 V0 (by decide) (by decide) (v := (.long ev0)) q0 (hb hby d7_54) (q := 55) rfl ?_
  refine g_l2i X160 hx (hb hby d7_55) (z := p0) r0 (q := 56) rfl ?_
  refine g_istore X160 hx (hb hby d7_56) (L' := #[.val (.ref b), .val (.ref lb), .val (.int (3 : Int32)), .val (.ref ae), .val (.int (0 : Int32)), .val (.int (0 : Int32)), .val (.int p0), .val (.int (0 : Int32))]) rfl (q := 58) rfl ?_
  refine g_iload X160 hx (hb hby d7_58) (v := (0 : Int32)) rfl (q := 60) rfl ?_
  refine g_iconst X160 hx (hb hby d7_60) (n := (1 : Int32)) (by decide) (q := 61) rfl ?_
  refine g_iadd X160 hx (hb hby d7_61) (z := (1 : Int32)) (by decide) (q := 62) rfl ?_
  refine g_istore X160 hx (hb hby d7_62) (L' := #[.val (.ref b), .val (.ref lb), .val (.int (3 : Int32)), .val (.ref ae), .val (.int (1 : Int32)), .val (.int (0 : Int32)), .val (.int p0), .val (.int (0 : Int32))]) rfl (q := 64) rfl ?_
  refine g_goto X160 hx (hb hby d7_64) (by decide) (q := 73) (by decide) ?_
  refine g_goto X160 hx (hb hby d7_73) (by decide) (q := 21) (by decide) ?_
  refine g_iload X160 hx (hb hby d7_21) (v := (1 : Int32)) rfl (q := 23) rfl ?_
  refine g_iload X160 hx (hb hby d7_23) (v := (0 : Int32)) rfl (q := 25) rfl ?_
  refine g_icmp_gt X160 hx (hb hby d7_25) (by decide) (q := 76) (by decide) (q2 := 28) rfl (fun hb25 => ?_) (fun hb25 => absurd hb25 (by decide))
  refine g_iload X160 hx (hb hby d7_76) (v := p0) rfl (q := 78) rfl ?_
  exact g_retI X160 hx hret hlk (hb hby d7_78) ⟨rfl, rfl, e160⟩ (Nat.le_of_ble_eq_true rfl) (Nat.le_of_ble_eq_true rfl)
set_option maxRecDepth 65536 in
set_option maxHeartbeats 40000000 in
theorem rmF30 (l : Launch) (Z : State) (a0 : Array Value) (hw : ∀ d ∈ tables_1, d.before a0 Z = true) (b ae : Addr) (ev0 : Int64) (p0 : Int32) (ev1 : Int64) (p1 : Int32) (ev2 : Int64) (p2 : Int32) (f : Nat → Value) (h0 : Heap) (E0 : Exa Z h0 b "com/example/newlyn/newlyn/storage/SegmentIndex") (F0 : Fld Z h0 b "com/example/newlyn/newlyn/storage/SegmentIndex" "entries" "[J" (.ref ae)) (F1 : Fld Z h0 b "com/example/newlyn/newlyn/storage/SegmentIndex" "count" "I" (.int (3 : Int32))) (V0 : Af Z h0 ae .long 32 f) (q0 : f (0 : Int32).toNatClampNeg = .long ev0) (r0 : ev0.toInt32 = p0) (o0 : own_off ev0 = (0 : Int64)) (q1 : f (2 : Int32).toNatClampNeg = .long ev1) (r1 : ev1.toInt32 = p1) (o1 : own_off ev1 = (1 : Int64)) (q2 : f (4 : Int32).toNatClampNeg = .long ev2) (r2 : ev2.toInt32 = p2) (o2 : own_off ev2 = (2 : Int64)) :
    ConH l Z h0 (⟨"com/example/newlyn/newlyn/storage/SegmentIndex", "floorPosition", "(J)I"⟩ : MethodName) prog_23_method_4_code 3 (some .int) ({ frames := 3, cells := 1, slots := 1, locals := 3075 } : Room) #[(.ref b), (.long (0 : Int64))] (fun v h L => v = some (.int p0) ∧ L = [] ∧ Ext h0 h) := by
  refine con_ofH (plainFor_of_name pn_1) (Ls := #[.val (.ref b), .val (.long (0 : Int64)), .second]) (fun m => by first | (simp [entryFrame, mkF, argsToLocals, Value.category]; done) | rfl) ?_
  intro p e s m below meth c s₁ hx hH hby hml hret hlk hnm hown hnamed X0 e0
  have hZ := hH.wide
  refine g_aloadN X0 hx (hb hby d6_0) (v := (.ref b)) rfl rfl (q := 1) rfl ?_
  refine g_lloadN X0 hx (hb hby d6_1) (v := (0 : Int64)) rfl (q := 2) rfl ?_
  refine g_lambda X0 hx hH hnamed (hw _ (List.mem_of_getElem? (i := 32) rfl)) (hw _ (List.mem_of_getElem? (i := 35) rfl)) e0 (by exact hml.symm) (hb hby d6_2) (Nat.le_of_ble_eq_true rfl) (Nat.le_of_ble_eq_true rfl) (Nat.le_of_ble_eq_true rfl) fun T161 h161 lb g161 X161 e161 E161 L161 => ?_
  have f162 := (E0.ext E161)
  have f163 := (F0.ext E161)
  have f164 := (F1.ext E161)
  have f165 := (V0.ext E161)
  refine g_callPH X161 hx hH hown (hw _ (List.mem_of_getElem? (i := 36) rfl)) (hw _ (List.mem_of_getElem? (i := 37) rfl)) (hw _ (List.mem_of_getElem? (i := 38) rfl)) (hw _ (List.mem_of_getElem? (i := 9) rfl)) (hw _ (List.mem_of_getElem? (i := 39) rfl)) (hw _ (List.mem_of_getElem? (i := 10) rfl)) (by decide) e161 f162 (rmLP30 l Z a0 hw b ae lb ev0 p0 ev1 p1 ev2 p2 f h161 f162 f163 f164 f165 L161 q0 r0 o0 q1 r1 o1 q2 r2 o2) (by exact hml.symm) (argsL := [(.ref lb)]) (rest := []) rfl rfl pd_1 rfl (Nat.le_of_ble_eq_true rfl) (Nat.le_of_ble_eq_true rfl) (Nat.le_of_ble_eq_true rfl) (Nat.le_of_ble_eq_true rfl) (hb hby d6_7) (q := 10) rfl (fun v166 T166 L166 X166 hQ166 => ?_)
  obtain ⟨rfl, rfl, e166⟩ := hQ166
  show Go p e below _ (T166.setTop (mkF m 10 #[.val (.ref b), .val (.long (0 : Int64)), .second] [(.int p0)]))
  exact g_retI X166 hx hret hlk (hb hby d6_10) ⟨rfl, by simp, by rw [e166]; exact E161⟩ (Nat.le_of_ble_eq_true rfl) (Nat.le_of_ble_eq_true rfl)
set_option maxRecDepth 65536 in
set_option maxHeartbeats 40000000 in
theorem rmLP31 (l : Launch) (Z : State) (a0 : Array Value) (hw : ∀ d ∈ tables_1, d.before a0 Z = true) (b ae lb : Addr) (ev0 : Int64) (p0 : Int32) (ev1 : Int64) (p1 : Int32) (ev2 : Int64) (p2 : Int32) (f : Nat → Value) (h0 : Heap) (E0 : Exa Z h0 b "com/example/newlyn/newlyn/storage/SegmentIndex") (F0 : Fld Z h0 b "com/example/newlyn/newlyn/storage/SegmentIndex" "entries" "[J" (.ref ae)) (F1 : Fld Z h0 b "com/example/newlyn/newlyn/storage/SegmentIndex" "count" "I" (.int (3 : Int32))) (V0 : Af Z h0 ae .long 32 f) (L0 : Lob Z h0 lb (1 : Int64)) (q0 : f (0 : Int32).toNatClampNeg = .long ev0) (r0 : ev0.toInt32 = p0) (o0 : own_off ev0 = (0 : Int64)) (q1 : f (2 : Int32).toNatClampNeg = .long ev1) (r1 : ev1.toInt32 = p1) (o1 : own_off ev1 = (1 : Int64)) (q2 : f (4 : Int32).toNatClampNeg = .long ev2) (r2 : ev2.toInt32 = p2) (o2 : own_off ev2 = (2 : Int64)) :
    ConH l Z h0 (⟨"com/example/newlyn/newlyn/storage/SegmentIndex", "lastPosition", "(Lcom/example/newlyn/newlyn/storage/SegmentIndex$EntryTest;)I"⟩ : MethodName) prog_23_method_6_code 8 (some .int) ({ frames := 2, cells := 0, slots := 0, locals := 29 } : Room) #[(.ref b), (.ref lb)] (Pur (some (.int p1)) h0) := by
  refine con_ofH (plainFor_of_name pn_1) (Ls := #[.val (.ref b), .val (.ref lb), .unset, .unset, .unset, .unset, .unset, .unset]) (fun m => by first | (simp [entryFrame, mkF, argsToLocals, Value.category]; done) | rfl) ?_
  intro p e s m below meth c s₁ hx hH hby hml hret hlk hnm hown hnamed X0 e0
  have hZ := hH.wide
  refine g_aloadN X0 hx (hb hby d7_0) (v := (.ref b)) rfl rfl (q := 1) rfl ?_
  refine g_getF X0 hx hZ hown (hw _ (List.mem_of_getElem? (i := 25) rfl)) Via.refl e0 F1 (hb hby d7_1) (q := 4) rfl fun T167 X167 e167 => ?_
  refine g_istoreN X167 hx (hb hby d7_4) (L' := #[.val (.ref b), .val (.ref lb), .val (.int (3 : Int32)), .unset, .unset, .unset, .unset, .unset]) rfl (q := 5) rfl ?_
  refine g_aloadN X167 hx (hb hby d7_5) (v := (.ref b)) rfl rfl (q := 6) rfl ?_
  refine g_getF X167 hx hZ hown (hw _ (List.mem_of_getElem? (i := 18) rfl)) Via.refl e167 F0 (hb hby d7_6) (q := 9) rfl fun T168 X168 e168 => ?_
  refine g_astoreN X168 hx (hb hby d7_9) rfl (L' := #[.val (.ref b), .val (.ref lb), .val (.int (3 : Int32)), .val (.ref ae), .unset, .unset, .unset, .unset]) rfl (q := 10) rfl ?_
  refine g_iconst X168 hx (hb hby d7_10) (n := (0 : Int32)) (by decide) (q := 11) rfl ?_
  refine g_istore X168 hx (hb hby d7_11) (L' := #[.val (.ref b), .val (.ref lb), .val (.int (3 : Int32)), .val (.ref ae), .val (.int (0 : Int32)), .unset, .unset, .unset]) rfl (q := 13) rfl ?_
  refine g_iloadN X168 hx (hb hby d7_13) (v := (3 : Int32)) rfl (q := 14) rfl ?_
  refine g_iconst X168 hx (hb hby d7_14) (n := (1 : Int32)) (by decide) (q := 15) rfl ?_
  refine g_isub X168 hx (hb hby d7_15) (z := (2 : Int32)) (by decide) (q := 16) rfl ?_
  refine g_istore X168 hx (hb hby d7_16) (L' := #[.val (.ref b), .val (.ref lb), .val (.int (3 : Int32)), .val (.ref ae), .val (.int (0 : Int32)), .val (.int (2 : Int32)), .unset, .unset]) rfl (q := 18) rfl ?_
  refine g_iconst X168 hx (hb hby d7_18) (n := (0 : Int32)) (by decide) (q := 19) rfl ?_
  refine g_istore X168 hx (hb hby d7_19) (L' := #[.val (.ref b), .val (.ref lb), .val (.int (3 : Int32)), .val (.ref ae), .val (.int (0 : Int32)), .val (.int (2 : Int32)), .val (.int (0 : Int32)), .unset]) rfl (q := 21) rfl ?_
  refine g_iload X168 hx (hb hby d7_21) (v := (0 : Int32)) rfl (q := 23) rfl ?_
  refine g_iload X168 hx (hb hby d7_23) (v := (2 : Int32)) rfl (q := 25) rfl ?_
  refine g_icmp_gt X168 hx (hb hby d7_25) (by decide) (q := 76) (by decide) (q2 := 28) rfl (fun hb25 => absurd hb25 (by decide)) (fun hb25 => ?_)
  refine g_iload X168 hx (hb hby d7_28) (v := (0 : Int32)) rfl (q := 30) rfl ?_
  refine g_iload X168 hx (hb hby d7_30) (v := (2 : Int32)) rfl (q := 32) rfl ?_
  refine g_iadd X168 hx (hb hby d7_32) (z := (2 : Int32)) (by decide) (q := 33) rfl ?_
  refine g_iconst X168 hx (hb hby d7_33) (n := (1 : Int32)) (by decide) (q := 34) rfl ?_
  refine g_iushr X168 hx (hb hby d7_34) (z := (1 : Int32)) (by decide) (q := 35) rfl ?_
  refine g_istore X168 hx (hb hby d7_35) (L' := #[.val (.ref b), .val (.ref lb), .val (.int (3 : Int32)), .val (.ref ae), .val (.int (0 : Int32)), .val (.int (2 : Int32)), .val (.int (0 : Int32)), .val (.int (1 : Int32))]) rfl (q := 37) rfl ?_
  refine g_aloadN X168 hx (hb hby d7_37) (v := (.ref lb)) rfl rfl (q := 38) rfl ?_
  refine g_aloadN X168 hx (hb hby d7_38) (v := (.ref ae)) rfl rfl (q := 39) rfl ?_
  refine g_iload X168 hx (hb hby d7_39) (v := (1 : Int32)) rfl (q := 41) rfl ?_
  refine g_test X168 hx hH hown (hw _ (List.mem_of_getElem? (i := 53) rfl)) (hw _ (List.mem_of_getElem? (i := 54) rfl)) (hw _ (List.mem_of_getElem? (i := 55) rfl)) (hw _ (List.mem_of_getElem? (i := 32) rfl)) (hw _ (List.mem_of_getElem? (i := 35) rfl)) (hw _ (List.mem_of_getElem? (i := 57) rfl)) (hw _ (List.mem_of_getElem? (i := 56) rfl)) (hw _ (List.mem_of_getElem? (i := 10) rfl)) e168 (r0 := (1 : Int32)) L0 (by decide) (rmL l Z a0 hw (1 : Int64) ae (1 : Int32) (2 : Int32) ev1 (1 : Int64) f h0 (by decide) (by decide) (by decide) q1 o1 V0 (1 : Int32) (by decide)) (by exact hml.symm) (Nat.le_of_ble_eq_true rfl) (Nat.le_of_ble_eq_true rfl) (Nat.le_of_ble_eq_true rfl) (Nat.le_of_ble_eq_true rfl) (hb hby d7_41) (q := 46) rfl fun T169 X169 e169 => ?_
  refine g_if_eq X169 hx (hb hby d7_46) (by decide) (q := 67) (by decide) (q2 := 49) rfl (fun hb46 => absurd hb46 (by decide)) (fun hb46 => ?_)
  refine g_aloadN X169 hx (hb hby d7_49) (v := (.ref ae)) rfl rfl (q := 50) rfl ?_
  refine g_iload X169 hx (hb hby d7_50) (v := (1 : Int32)) rfl (q := 52) rfl ?_
  refine g_iconst X169 hx (hb hby d7_52) (n := (2 : Int32)) (by decide) (q := 53) rfl ?_
  refine g_imul X169 hx (hb hby d7_53) (z := (2 : Int32)) (by decide) (q := 54) rfl ?_
  refine g_laload X169 hx hZ e169 V0 (by decide) (by decide) (v := (.long ev1)) q1 (hb hby d7_54) (q := 55) rfl ?_
  refine g_l2i X169 hx (hb hby d7_55) (z := p1) r1 (q := 56) rfl ?_
  refine g_istore X169 hx (hb hby d7_56) (L' := #[.val (.ref b), .val (.ref lb), .val (.int (3 : Int32)), .val (.ref ae), .val (.int (0 : Int32)), .val (.int (2 : Int32)), .val (.int p1), .val (.int (1 : Int32))]) rfl (q := 58) rfl ?_
  refine g_iload X169 hx (hb hby d7_58) (v := (1 : Int32)) rfl (q := 60) rfl ?_
  refine g_iconst X169 hx (hb hby d7_60) (n := (1 : Int32)) (by decide) (q := 61) rfl ?_
  refine g_iadd X169 hx (hb hby d7_61) (z := (2 : Int32)) (by decide) (q := 62) rfl ?_
  refine g_istore X169 hx (hb hby d7_62) (L' := #[.val (.ref b), .val (.ref lb), .val (.int (3 : Int32)), .val (.ref ae), .val (.int (2 : Int32)), .val (.int (2 : Int32)), .val (.int p1), .val (.int (1 : Int32))]) rfl (q := 64) rfl ?_
  refine g_goto X169 hx (hb hby d7_64) (by decide) (q := 73) (by decide) ?_
  refine g_goto X169 hx (hb hby d7_73) (by decide) (q := 21) (by decide) ?_
  refine g_iload X169 hx (hb hby d7_21) (v := (2 : Int32)) rfl (q := 23) rfl ?_
  refine g_iload X169 hx (hb hby d7_23) (v := (2 : Int32)) rfl (q := 25) rfl ?_
  refine g_icmp_gt X169 hx (hb hby d7_25) (by decide) (q := 76) (by decide) (q2 := 28) rfl (fun hb25 => absurd hb25 (by decide)) (fun hb25 => ?_)
  refine g_iload X169 hx (hb hby d7_28) (v := (2 : Int32)) rfl (q := 30) rfl ?_
  refine g_iload X169 hx (hb hby d7_30) (v := (2 : Int32)) rfl (q := 32) rfl ?_
  refine g_iadd X169 hx (hb hby d7_32) (z := (4 : Int32)) (by decide) (q := 33) rfl ?_
  refine g_iconst X169 hx (hb hby d7_33) (n := (1 : Int32)) (by decide) (q := 34) rfl ?_
  refine g_iushr X169 hx (hb hby d7_34) (z := (2 : Int32)) (by decide) (q := 35) rfl ?_
  refine g_istore X169 hx (hb hby d7_35) (L' := #[.val (.ref b), .val (.ref lb), .val (.int (3 : Int32)), .val (.ref ae), .val (.int (2 : Int32)), .val (.int (2 : Int32)), .val (.int p1), .val (.int (2 : Int32))]) rfl (q := 37) rfl ?_
  refine g_aloadN X169 hx (hb hby d7_37) (v := (.ref lb)) rfl rfl (q := 38) rfl ?_
  refine g_aloadN X169 hx (hb hby d7_38) (v := (.ref ae)) rfl rfl (q := 39) rfl ?_
  refine g_iload X169 hx (hb hby d7_39) (v := (2 : Int32)) rfl (q := 41) rfl ?_
  refine g_test X169 hx hH hown (hw _ (List.mem_of_getElem? (i := 53) rfl)) (hw _ (List.mem_of_getElem? (i := 54) rfl)) (hw _ (List.mem_of_getElem? (i := 55) rfl)) (hw _ (List.mem_of_getElem? (i := 32) rfl)) (hw _ (List.mem_of_getElem? (i := 35) rfl)) (hw _ (List.mem_of_getElem? (i := 57) rfl)) (hw _ (List.mem_of_getElem? (i := 56) rfl)) (hw _ (List.mem_of_getElem? (i := 10) rfl)) e169 (r0 := (0 : Int32)) L0 (by decide) (rmL l Z a0 hw (1 : Int64) ae (2 : Int32) (4 : Int32) ev2 (2 : Int64) f h0 (by decide) (by decide) (by decide) q2 o2 V0 (0 : Int32) (by decide)) (by exact hml.symm) (Nat.le_of_ble_eq_true rfl) (Nat.le_of_ble_eq_true rfl) (Nat.le_of_ble_eq_true rfl) (Nat.le_of_ble_eq_true rfl) (hb hby d7_41) (q := 46) rfl fun T170 X170 e170 => ?_
  refine g_if_eq X170 hx (hb hby d7_46) (by decide) (q := 67) (by decide) (q2 := 49) rfl (fun hb46 => ?_) (fun hb46 => absurd hb46 (by decide))
  refine g_iload X170 hx (hb hby d7_67) (v := (2 : Int32)) rfl (q := 69) rfl ?_
  refine g_iconst X170 hx (hb hby d7_69) (n := (1 : Int32)) (by decide) (q := 70) rfl ?_
  refine g_isub X170 hx (hb hby d7_70) (z := (1 : Int32)) (by decide) (q := 71) rfl ?_
  refine g_istore X170 hx (hb hby d7_71) (L' := #[.val (.ref b), .val (.ref lb), .val (.int (3 : Int32)), .val (.ref ae), .val (.int (2 : Int32)), .val (.int (1 : Int32)), .val (.int p1), .val (.int (2 : Int32))]) rfl (q := 73) rfl ?_
  refine g_goto X170 hx (hb hby d7_73) (by decide) (q := 21) (by decide) ?_
  refine g_iload X170 hx (hb hby d7_21) (v := (2 : Int32)) rfl (q := 23) rfl ?_
  refine g_iload X170 hx (hb hby d7_23) (v := (1 : Int32)) rfl (q := 25) rfl ?_
  refine g_icmp_gt X170 hx (hb hby d7_25) (by decide) (q := 76) (by decide) (q2 := 28) rfl (fun hb25 => ?_) (fun hb25 => absurd hb25 (by decide))
  refine g_iload X170 hx (hb hby d7_76) (v := p1) rfl (q := 78) rfl ?_
  exact g_retI X170 hx hret hlk (hb hby d7_78) ⟨rfl, rfl, e170⟩ (Nat.le_of_ble_eq_true rfl) (Nat.le_of_ble_eq_true rfl)
set_option maxRecDepth 65536 in
set_option maxHeartbeats 40000000 in
theorem rmF31 (l : Launch) (Z : State) (a0 : Array Value) (hw : ∀ d ∈ tables_1, d.before a0 Z = true) (b ae : Addr) (ev0 : Int64) (p0 : Int32) (ev1 : Int64) (p1 : Int32) (ev2 : Int64) (p2 : Int32) (f : Nat → Value) (h0 : Heap) (E0 : Exa Z h0 b "com/example/newlyn/newlyn/storage/SegmentIndex") (F0 : Fld Z h0 b "com/example/newlyn/newlyn/storage/SegmentIndex" "entries" "[J" (.ref ae)) (F1 : Fld Z h0 b "com/example/newlyn/newlyn/storage/SegmentIndex" "count" "I" (.int (3 : Int32))) (V0 : Af Z h0 ae .long 32 f) (q0 : f (0 : Int32).toNatClampNeg = .long ev0) (r0 : ev0.toInt32 = p0) (o0 : own_off ev0 = (0 : Int64)) (q1 : f (2 : Int32).toNatClampNeg = .long ev1) (r1 : ev1.toInt32 = p1) (o1 : own_off ev1 = (1 : Int64)) (q2 : f (4 : Int32).toNatClampNeg = .long ev2) (r2 : ev2.toInt32 = p2) (o2 : own_off ev2 = (2 : Int64)) :
    ConH l Z h0 (⟨"com/example/newlyn/newlyn/storage/SegmentIndex", "floorPosition", "(J)I"⟩ : MethodName) prog_23_method_4_code 3 (some .int) ({ frames := 3, cells := 1, slots := 1, locals := 3075 } : Room) #[(.ref b), (.long (1 : Int64))] (fun v h L => v = some (.int p1) ∧ L = [] ∧ Ext h0 h) := by
  refine con_ofH (plainFor_of_name pn_1) (Ls := #[.val (.ref b), .val (.long (1 : Int64)), .second]) (fun m => by first | (simp [entryFrame, mkF, argsToLocals, Value.category]; done) | rfl) ?_
  intro p e s m below meth c s₁ hx hH hby hml hret hlk hnm hown hnamed X0 e0
  have hZ := hH.wide
  refine g_aloadN X0 hx (hb hby d6_0) (v := (.ref b)) rfl rfl (q := 1) rfl ?_
  refine g_lloadN X0 hx (hb hby d6_1) (v := (1 : Int64)) rfl (q := 2) rfl ?_
  refine g_lambda X0 hx hH hnamed (hw _ (List.mem_of_getElem? (i := 32) rfl)) (hw _ (List.mem_of_getElem? (i := 35) rfl)) e0 (by exact hml.symm) (hb hby d6_2) (Nat.le_of_ble_eq_true rfl) (Nat.le_of_ble_eq_true rfl) (Nat.le_of_ble_eq_true rfl) fun T171 h171 lb g171 X171 e171 E171 L171 => ?_
  have f172 := (E0.ext E171)
  have f173 := (F0.ext E171)
  have f174 := (F1.ext E171)
  have f175 := (V0.ext E171)
  refine g_callPH X171 hx hH hown (hw _ (List.mem_of_getElem? (i := 36) rfl)) (hw _ (List.mem_of_getElem? (i := 37) rfl)) (hw _ (List.mem_of_getElem? (i := 38) rfl)) (hw _ (List.mem_of_getElem? (i := 9) rfl)) (hw _ (List.mem_of_getElem? (i := 39) rfl)) (hw _ (List.mem_of_getElem? (i := 10) rfl)) (by decide) e171 f172 (rmLP31 l Z a0 hw b ae lb ev0 p0 ev1 p1 ev2 p2 f h171 f172 f173 f174 f175 L171 q0 r0 o0 q1 r1 o1 q2 r2 o2) (by exact hml.symm) (argsL := [(.ref lb)]) (rest := []) rfl rfl pd_1 rfl (Nat.le_of_ble_eq_true rfl) (Nat.le_of_ble_eq_true rfl) (Nat.le_of_ble_eq_true rfl) (Nat.le_of_ble_eq_true rfl) (hb hby d6_7) (q := 10) rfl (fun v176 T176 L176 X176 hQ176 => ?_)
  obtain ⟨rfl, rfl, e176⟩ := hQ176
  show Go p e below _ (T176.setTop (mkF m 10 #[.val (.ref b), .val (.long (1 : Int64)), .second] [(.int p1)]))
  exact g_retI X176 hx hret hlk (hb hby d6_10) ⟨rfl, by simp, by rw [e176]; exact E171⟩ (Nat.le_of_ble_eq_true rfl) (Nat.le_of_ble_eq_true rfl)
set_option maxRecDepth 65536 in
set_option maxHeartbeats 40000000 in
theorem rmLP32 (l : Launch) (Z : State) (a0 : Array Value) (hw : ∀ d ∈ tables_1, d.before a0 Z = true) (b ae lb : Addr) (ev0 : Int64) (p0 : Int32) (ev1 : Int64) (p1 : Int32) (ev2 : Int64) (p2 : Int32) (f : Nat → Value) (h0 : Heap) (E0 : Exa Z h0 b "com/example/newlyn/newlyn/storage/SegmentIndex") (F0 : Fld Z h0 b "com/example/newlyn/newlyn/storage/SegmentIndex" "entries" "[J" (.ref ae)) (F1 : Fld Z h0 b "com/example/newlyn/newlyn/storage/SegmentIndex" "count" "I" (.int (3 : Int32))) (V0 : Af Z h0 ae .long 32 f) (L0 : Lob Z h0 lb (2 : Int64)) (q0 : f (0 : Int32).toNatClampNeg = .long ev0) (r0 : ev0.toInt32 = p0) (o0 : own_off ev0 = (0 : Int64)) (q1 : f (2 : Int32).toNatClampNeg = .long ev1) (r1 : ev1.toInt32 = p1) (o1 : own_off ev1 = (1 : Int64)) (q2 : f (4 : Int32).toNatClampNeg = .long ev2) (r2 : ev2.toInt32 = p2) (o2 : own_off ev2 = (2 : Int64)) :
    ConH l Z h0 (⟨"com/example/newlyn/newlyn/storage/SegmentIndex", "lastPosition", "(Lcom/example/newlyn/newlyn/storage/SegmentIndex$EntryTest;)I"⟩ : MethodName) prog_23_method_6_code 8 (some .int) ({ frames := 2, cells := 0, slots := 0, locals := 29 } : Room) #[(.ref b), (.ref lb)] (Pur (some (.int p2)) h0) := by
  refine con_ofH (plainFor_of_name pn_1) (Ls := #[.val (.ref b), .val (.ref lb), .unset, .unset, .unset, .unset, .unset, .unset]) (fun m => by first | (simp [entryFrame, mkF, argsToLocals, Value.category]; done) | rfl) ?_
  intro p e s m below meth c s₁ hx hH hby hml hret hlk hnm hown hnamed X0 e0
  have hZ := hH.wide
  refine g_aloadN X0 hx (hb hby d7_0) (v := (.ref b)) rfl rfl (q := 1) rfl ?_
  refine g_getF X0 hx hZ hown (hw _ (List.mem_of_getElem? (i := 25) rfl)) Via.refl e0 F1 (hb hby d7_1) (q := 4) rfl fun T177 X177 e177 => ?_
  refine g_istoreN X177 hx (hb hby d7_4) (L' := #[.val (.ref b), .val (.ref lb), .val (.int (3 : Int32)), .unset, .unset, .unset, .unset, .unset]) rfl (q := 5) rfl ?_
  refine g_aloadN X177 hx (hb hby d7_5) (v := (.ref b)) rfl rfl (q := 6) rfl ?_
  refine g_getF X177 hx hZ hown (hw _ (List.mem_of_getElem? (i := 18) rfl)) Via.refl e177 F0 (hb hby d7_6) (q := 9) rfl fun T178 X178 e178 => ?_
  refine g_astoreN X178 hx (hb hby d7_9) rfl (L' := #[.val (.ref b), .val (.ref lb), .val (.int (3 : Int32)), .val (.ref ae), .unset, .unset, .unset, .unset]) rfl (q := 10) rfl ?_
  refine g_iconst X178 hx (hb hby d7_10) (n := (0 : Int32)) (by decide) (q := 11) rfl ?_
  refine g_istore X178 hx (hb hby d7_11) (L' := #[.val (.ref b), .val (.ref lb), .val (.int (3 : Int32)), .val (.ref ae), .val (.int (0 : Int32)), .unset, .unset, .unset]) rfl (q := 13) rfl ?_
  refine g_iloadN X178 hx (hb hby d7_13) (v := (3 : Int32)) rfl (q := 14) rfl ?_
  refine g_iconst X178 hx (hb hby d7_14) (n := (1 : Int32)) (by decide) (q := 15) rfl ?_
  refine g_isub X178 hx (hb hby d7_15) (z := (2 : Int32)) (by decide) (q := 16) rfl ?_
  refine g_istore X178 hx (hb hby d7_16) (L' := #[.val (.ref b), .val (.ref lb), .val (.int (3 : Int32)), .val (.ref ae), .val (.int (0 : Int32)), .val (.int (2 : Int32)), .unset, .unset]) rfl (q := 18) rfl ?_
  refine g_iconst X178 hx (hb hby d7_18) (n := (0 : Int32)) (by decide) (q := 19) rfl ?_
  refine g_istore X178 hx (hb hby d7_19) (L' := #[.val (.ref b), .val (.ref lb), .val (.int (3 : Int32)), .val (.ref ae), .val (.int (0 : Int32)), .val (.int (2 : Int32)), .val (.int (0 : Int32)), .unset]) rfl (q := 21) rfl ?_
  refine g_iload X178 hx (hb hby d7_21) (v := (0 : Int32)) rfl (q := 23) rfl ?_
  refine g_iload X178 hx (hb hby d7_23) (v := (2 : Int32)) rfl (q := 25) rfl ?_
  refine g_icmp_gt X178 hx (hb hby d7_25) (by decide) (q := 76) (by decide) (q2 := 28) rfl (fun hb25 => absurd hb25 (by decide)) (fun hb25 => ?_)
  refine g_iload X178 hx (hb hby d7_28) (v := (0 : Int32)) rfl (q := 30) rfl ?_
  refine g_iload X178 hx (hb hby d7_30) (v := (2 : Int32)) rfl (q := 32) rfl ?_
  refine g_iadd X178 hx (hb hby d7_32) (z := (2 : Int32)) (by decide) (q := 33) rfl ?_
  refine g_iconst X178 hx (hb hby d7_33) (n := (1 : Int32)) (by decide) (q := 34) rfl ?_
  refine g_iushr X178 hx (hb hby d7_34) (z := (1 : Int32)) (by decide) (q := 35) rfl ?_
  refine g_istore X178 hx (hb hby d7_35) (L' := #[.val (.ref b), .val (.ref lb), .val (.int (3 : Int32)), .val (.ref ae), .val (.int (0 : Int32)), .val (.int (2 : Int32)), .val (.int (0 : Int32)), .val (.int (1 : Int32))]) rfl (q := 37) rfl ?_
  refine g_aloadN X178 hx (hb hby d7_37) (v := (.ref lb)) rfl rfl (q := 38) rfl ?_
  refine g_aloadN X178 hx (hb hby d7_38) (v := (.ref ae)) rfl rfl (q := 39) rfl ?_
  refine g_iload X178 hx (hb hby d7_39) (v := (1 : Int32)) rfl (q := 41) rfl ?_
  refine g_test X178 hx hH hown (hw _ (List.mem_of_getElem? (i := 53) rfl)) (hw _ (List.mem_of_getElem? (i := 54) rfl)) (hw _ (List.mem_of_getElem? (i := 55) rfl)) (hw _ (List.mem_of_getElem? (i := 32) rfl)) (hw _ (List.mem_of_getElem? (i := 35) rfl)) (hw _ (List.mem_of_getElem? (i := 57) rfl)) (hw _ (List.mem_of_getElem? (i := 56) rfl)) (hw _ (List.mem_of_getElem? (i := 10) rfl)) e178 (r0 := (1 : Int32)) L0 (by decide) (rmL l Z a0 hw (2 : Int64) ae (1 : Int32) (2 : Int32) ev1 (1 : Int64) f h0 (by decide) (by decide) (by decide) q1 o1 V0 (1 : Int32) (by decide)) (by exact hml.symm) (Nat.le_of_ble_eq_true rfl) (Nat.le_of_ble_eq_true rfl) (Nat.le_of_ble_eq_true rfl) (Nat.le_of_ble_eq_true rfl) (hb hby d7_41) (q := 46) rfl fun T179 X179 e179 => ?_
  refine g_if_eq X179 hx (hb hby d7_46) (by decide) (q := 67) (by decide) (q2 := 49) rfl (fun hb46 => absurd hb46 (by decide)) (fun hb46 => ?_)
  refine g_aloadN X179 hx (hb hby d7_49) (v := (.ref ae)) rfl rfl (q := 50) rfl ?_
  refine g_iload X179 hx (hb hby d7_50) (v := (1 : Int32)) rfl (q := 52) rfl ?_
  refine g_iconst X179 hx (hb hby d7_52) (n := (2 : Int32)) (by decide) (q := 53) rfl ?_
  refine g_imul X179 hx (hb hby d7_53) (z := (2 : Int32)) (by decide) (q := 54) rfl ?_
  refine g_laload X179 hx hZ e179 V0 (by decide) (by decide) (v := (.long ev1)) q1 (hb hby d7_54) (q := 55) rfl ?_
  refine g_l2i X179 hx (hb hby d7_55) (z := p1) r1 (q := 56) rfl ?_
  refine g_istore X179 hx (hb hby d7_56) (L' := #[.val (.ref b), .val (.ref lb), .val (.int (3 : Int32)), .val (.ref ae), .val (.int (0 : Int32)), .val (.int (2 : Int32)), .val (.int p1), .val (.int (1 : Int32))]) rfl (q := 58) rfl ?_
  refine g_iload X179 hx (hb hby d7_58) (v := (1 : Int32)) rfl (q := 60) rfl ?_
  refine g_iconst X179 hx (hb hby d7_60) (n := (1 : Int32)) (by decide) (q := 61) rfl ?_
  refine g_iadd X179 hx (hb hby d7_61) (z := (2 : Int32)) (by decide) (q := 62) rfl ?_
  refine g_istore X179 hx (hb hby d7_62) (L' := #[.val (.ref b), .val (.ref lb), .val (.int (3 : Int32)), .val (.ref ae), .val (.int (2 : Int32)), .val (.int (2 : Int32)), .val (.int p1), .val (.int (1 : Int32))]) rfl (q := 64) rfl ?_
  refine g_goto X179 hx (hb hby d7_64) (by decide) (q := 73) (by decide) ?_
  refine g_goto X179 hx (hb hby d7_73) (by decide) (q := 21) (by decide) ?_
  refine g_iload X179 hx (hb hby d7_21) (v := (2 : Int32)) rfl (q := 23) rfl ?_
  refine g_iload X179 hx (hb hby d7_23) (v := (2 : Int32)) rfl (q := 25) rfl ?_
  refine g_icmp_gt X179 hx (hb hby d7_25) (by decide) (q := 76) (by decide) (q2 := 28) rfl (fun hb25 => absurd hb25 (by decide)) (fun hb25 => ?_)
  refine g_iload X179 hx (hb hby d7_28) (v := (2 : Int32)) rfl (q := 30) rfl ?_
  refine g_iload X179 hx (hb hby d7_30) (v := (2 : Int32)) rfl (q := 32) rfl ?_
  refine g_iadd X179 hx (hb hby d7_32) (z := (4 : Int32)) (by decide) (q := 33) rfl ?_
  refine g_iconst X179 hx (hb hby d7_33) (n := (1 : Int32)) (by decide) (q := 34) rfl ?_
  refine g_iushr X179 hx (hb hby d7_34) (z := (2 : Int32)) (by decide) (q := 35) rfl ?_
  refine g_istore X179 hx (hb hby d7_35) (L' := #[.val (.ref b), .val (.ref lb), .val (.int (3 : Int32)), .val (.ref ae), .val (.int (2 : Int32)), .val (.int (2 : Int32)), .val (.int p1), .val (.int (2 : Int32))]) rfl (q := 37) rfl ?_
  refine g_aloadN X179 hx (hb hby d7_37) (v := (.ref lb)) rfl rfl (q := 38) rfl ?_
  refine g_aloadN X179 hx (hb hby d7_38) (v := (.ref ae)) rfl rfl (q := 39) rfl ?_
  refine g_iload X179 hx (hb hby d7_39) (v := (2 : Int32)) rfl (q := 41) rfl ?_
  refine g_test X179 hx hH hown (hw _ (List.mem_of_getElem? (i := 53) rfl)) (hw _ (List.mem_of_getElem? (i := 54) rfl)) (hw _ (List.mem_of_getElem? (i := 55) rfl)) (hw _ (List.mem_of_getElem? (i := 32) rfl)) (hw _ (List.mem_of_getElem? (i := 35) rfl)) (hw _ (List.mem_of_getElem? (i := 57) rfl)) (hw _ (List.mem_of_getElem? (i := 56) rfl)) (hw _ (List.mem_of_getElem? (i := 10) rfl)) e179 (r0 := (1 : Int32)) L0 (by decide) (rmL l Z a0 hw (2 : Int64) ae (2 : Int32) (4 : Int32) ev2 (2 : Int64) f h0 (by decide) (by decide) (by decide) q2 o2 V0 (1 : Int32) (by decide)) (by exact hml.symm) (Nat.le_of_ble_eq_true rfl) (Nat.le_of_ble_eq_true rfl) (Nat.le_of_ble_eq_true rfl) (Nat.le_of_ble_eq_true rfl) (hb hby d7_41) (q := 46) rfl fun T180 X180 e180 => ?_
  refine g_if_eq X180 hx (hb hby d7_46) (by decide) (q := 67) (by decide) (q2 := 49) rfl (fun hb46 => absurd hb46 (by decide)) (fun hb46 => ?_)
  refine g_aloadN X180 hx (hb hby d7_49) (v := (.ref ae)) rfl rfl (q := 50) rfl ?_
  refine g_iload X180 hx (hb hby d7_50) (v := (2 : Int32)) rfl (q := 52) rfl ?_
  refine g_iconst X180 hx (hb hby d7_52) (n := (2 : Int32)) (by decide) (q := 53) rfl ?_
  refine g_imul X180 hx (hb hby d7_53) (z := (4 : Int32)) (by decide) (q := 54) rfl ?_
  refine g_laload X180 hx hZ e180 V0 (by decide) (by decide) (v := (.long ev2)) q2 (hb hby d7_54) (q := 55) rfl ?_
  refine g_l2i X180 hx (hb hby d7_55) (z := p2) r2 (q := 56) rfl ?_
  refine g_istore X180 hx (hb hby d7_56) (L' := #[.val (.ref b), .val (.ref lb), .val (.int (3 : Int32)), .val (.ref ae), .val (.int (2 : Int32)), .val (.int (2 : Int32)), .val (.int p2), .val (.int (2 : Int32))]) rfl (q := 58) rfl ?_
  refine g_iload X180 hx (hb hby d7_58) (v := (2 : Int32)) rfl (q := 60) rfl ?_
  refine g_iconst X180 hx (hb hby d7_60) (n := (1 : Int32)) (by decide) (q := 61) rfl ?_
  refine g_iadd X180 hx (hb hby d7_61) (z := (3 : Int32)) (by decide) (q := 62) rfl ?_
  refine g_istore X180 hx (hb hby d7_62) (L' := #[.val (.ref b), .val (.ref lb), .val (.int (3 : Int32)), .val (.ref ae), .val (.int (3 : Int32)), .val (.int (2 : Int32)), .val (.int p2), .val (.int (2 : Int32))]) rfl (q := 64) rfl ?_
  refine g_goto X180 hx (hb hby d7_64) (by decide) (q := 73) (by decide) ?_
  refine g_goto X180 hx (hb hby d7_73) (by decide) (q := 21) (by decide) ?_
  refine g_iload X180 hx (hb hby d7_21) (v := (3 : Int32)) rfl (q := 23) rfl ?_
  refine g_iload X180 hx (hb hby d7_23) (v := (2 : Int32)) rfl (q := 25) rfl ?_
  refine g_icmp_gt X180 hx (hb hby d7_25) (by decide) (q := 76) (by decide) (q2 := 28) rfl (fun hb25 => ?_) (fun hb25 => absurd hb25 (by decide))
  refine g_iload X180 hx (hb hby d7_76) (v := p2) rfl (q := 78) rfl ?_
  exact g_retI X180 hx hret hlk (hb hby d7_78) ⟨rfl, rfl, e180⟩ (Nat.le_of_ble_eq_true rfl) (Nat.le_of_ble_eq_true rfl)
set_option maxRecDepth 65536 in
set_option maxHeartbeats 40000000 in
theorem rmF32 (l : Launch) (Z : State) (a0 : Array Value) (hw : ∀ d ∈ tables_1, d.before a0 Z = true) (b ae : Addr) (ev0 : Int64) (p0 : Int32) (ev1 : Int64) (p1 : Int32) (ev2 : Int64) (p2 : Int32) (f : Nat → Value) (h0 : Heap) (E0 : Exa Z h0 b "com/example/newlyn/newlyn/storage/SegmentIndex") (F0 : Fld Z h0 b "com/example/newlyn/newlyn/storage/SegmentIndex" "entries" "[J" (.ref ae)) (F1 : Fld Z h0 b "com/example/newlyn/newlyn/storage/SegmentIndex" "count" "I" (.int (3 : Int32))) (V0 : Af Z h0 ae .long 32 f) (q0 : f (0 : Int32).toNatClampNeg = .long ev0) (r0 : ev0.toInt32 = p0) (o0 : own_off ev0 = (0 : Int64)) (q1 : f (2 : Int32).toNatClampNeg = .long ev1) (r1 : ev1.toInt32 = p1) (o1 : own_off ev1 = (1 : Int64)) (q2 : f (4 : Int32).toNatClampNeg = .long ev2) (r2 : ev2.toInt32 = p2) (o2 : own_off ev2 = (2 : Int64)) :
    ConH l Z h0 (⟨"com/example/newlyn/newlyn/storage/SegmentIndex", "floorPosition", "(J)I"⟩ : MethodName) prog_23_method_4_code 3 (some .int) ({ frames := 3, cells := 1, slots := 1, locals := 3075 } : Room) #[(.ref b), (.long (2 : Int64))] (fun v h L => v = some (.int p2) ∧ L = [] ∧ Ext h0 h) := by
  refine con_ofH (plainFor_of_name pn_1) (Ls := #[.val (.ref b), .val (.long (2 : Int64)), .second]) (fun m => by first | (simp [entryFrame, mkF, argsToLocals, Value.category]; done) | rfl) ?_
  intro p e s m below meth c s₁ hx hH hby hml hret hlk hnm hown hnamed X0 e0
  have hZ := hH.wide
  refine g_aloadN X0 hx (hb hby d6_0) (v := (.ref b)) rfl rfl (q := 1) rfl ?_
  refine g_lloadN X0 hx (hb hby d6_1) (v := (2 : Int64)) rfl (q := 2) rfl ?_
  refine g_lambda X0 hx hH hnamed (hw _ (List.mem_of_getElem? (i := 32) rfl)) (hw _ (List.mem_of_getElem? (i := 35) rfl)) e0 (by exact hml.symm) (hb hby d6_2) (Nat.le_of_ble_eq_true rfl) (Nat.le_of_ble_eq_true rfl) (Nat.le_of_ble_eq_true rfl) fun T181 h181 lb g181 X181 e181 E181 L181 => ?_
  have f182 := (E0.ext E181)
  have f183 := (F0.ext E181)
  have f184 := (F1.ext E181)
  have f185 := (V0.ext E181)
  refine g_callPH X181 hx hH hown (hw _ (List.mem_of_getElem? (i := 36) rfl)) (hw _ (List.mem_of_getElem? (i := 37) rfl)) (hw _ (List.mem_of_getElem? (i := 38) rfl)) (hw _ (List.mem_of_getElem? (i := 9) rfl)) (hw _ (List.mem_of_getElem? (i := 39) rfl)) (hw _ (List.mem_of_getElem? (i := 10) rfl)) (by decide) e181 f182 (rmLP32 l Z a0 hw b ae lb ev0 p0 ev1 p1 ev2 p2 f h181 f182 f183 f184 f185 L181 q0 r0 o0 q1 r1 o1 q2 r2 o2) (by exact hml.symm) (argsL := [(.ref lb)]) (rest := []) rfl rfl pd_1 rfl (Nat.le_of_ble_eq_true rfl) (Nat.le_of_ble_eq_true rfl) (Nat.le_of_ble_eq_true rfl) (Nat.le_of_ble_eq_true rfl) (hb hby d6_7) (q := 10) rfl (fun v186 T186 L186 X186 hQ186 => ?_)
  obtain ⟨rfl, rfl, e186⟩ := hQ186
  show Go p e below _ (T186.setTop (mkF m 10 #[.val (.ref b), .val (.long (2 : Int64)), .second] [(.int p2)]))
  exact g_retI X186 hx hret hlk (hb hby d6_10) ⟨rfl, by simp, by rw [e186]; exact E181⟩ (Nat.le_of_ble_eq_true rfl) (Nat.le_of_ble_eq_true rfl)
set_option maxRecDepth 65536 in
set_option maxHeartbeats 40000000 in
theorem law00 (l : Launch) (Z : State) (a0 : Array Value) (hw : ∀ d ∈ tables_1, d.before a0 Z = true) (a b c0 t n : Int32) (xv yv zv : Int64) (p0 p1 p2 : Int32) (h0 : Heap) (n0 : Nat) (Z0 : n0 ≤ h0.size) (hx1 : (a &&& (2147483647 : Int32)).toInt64 = xv) (hy1 : (b &&& (2147483647 : Int32)).toInt64 = yv) (hz1 : (c0 &&& (2147483647 : Int32)).toInt64 = zv) (hp0 : (own_minL (own_minL xv yv) zv).toInt32 = p0) (hp1 : ((((xv + yv) + zv) - (own_minL (own_minL xv yv) zv)) - (own_maxL (own_maxL xv yv) zv)).toInt32 = p1) (hp2 : (own_maxL (own_maxL xv yv) zv).toInt32 = p2) (g0 : ¬ p0 < 0) (g1 : ¬ p1 < 0) (g2 : ¬ p2 < 0) (hk : n &&& (3 : Int32) = 0) :
    ConH l Z h0 x code maxLocals ret room_1 #[(.int a), (.int b), (.int c0), (.int t), (.int n)] (fun v h L => v = some (.int 1) ∧ Fr n0 L) := by
  refine con_ofH (plainFor_of_name pn_0) (Ls := #[.val (.int a), .val (.int b), .val (.int c0), .val (.int t), .val (.int n), .unset, .unset, .unset, .unset, .unset, .unset, .unset, .unset, .unset, .unset, .unset, .unset, .unset, .unset, .unset, .unset, .unset, .unset]) (fun m => by first | (simp [entryFrame, mkF, argsToLocals, Value.category, maxLocals]; done) | rfl) ?_
  intro p e s m below meth c s₁ hx hH hby hml hret hlk hnm hown hnamed X0 e0
  have hZ := hH.wide
  refine g_iloadN X0 hx (hb hby at_0) (v := a) rfl (q := 1) rfl ?_
  refine g_ldcI X0 hx hZ hown (hw _ (List.mem_of_getElem? (i := 0) rfl)) (hb hby at_1) (q := 3) rfl ?_
  refine g_iand X0 hx (hb hby at_3) (z := (a &&& (2147483647 : Int32))) rfl (q := 4) rfl ?_
  refine g_i2l X0 hx (hb hby at_4) (z := xv) hx1 (q := 5) rfl ?_
  refine g_lstore X0 hx (hb hby at_5) (L' := #[.val (.int a), .val (.int b), .val (.int c0), .val (.int t), .val (.int n), .val (.long xv), .second, .unset, .unset, .unset, .unset, .unset, .unset, .unset, .unset, .unset, .unset, .unset, .unset, .unset, .unset, .unset, .unset]) rfl (q := 7) rfl ?_
  refine g_iloadN X0 hx (hb hby at_7) (v := b) rfl (q := 8) rfl ?_
  refine g_ldcI X0 hx hZ hown (hw _ (List.mem_of_getElem? (i := 0) rfl)) (hb hby at_8) (q := 10) rfl ?_
  refine g_iand X0 hx (hb hby at_10) (z := (b &&& (2147483647 : Int32))) rfl (q := 11) rfl ?_
  refine g_i2l X0 hx (hb hby at_11) (z := yv) hy1 (q := 12) rfl ?_
  refine g_lstore X0 hx (hb hby at_12) (L' := #[.val (.int a), .val (.int b), .val (.int c0), .val (.int t), .val (.int n), .val (.long xv), .second, .val (.long yv), .second, .unset, .unset, .unset, .unset, .unset, .unset, .unset, .unset, .unset, .unset, .unset, .unset, .unset, .unset]) rfl (q := 14) rfl ?_
  refine g_iloadN X0 hx (hb hby at_14) (v := c0) rfl (q := 15) rfl ?_
  refine g_ldcI X0 hx hZ hown (hw _ (List.mem_of_getElem? (i := 0) rfl)) (hb hby at_15) (q := 17) rfl ?_
  refine g_iand X0 hx (hb hby at_17) (z := (c0 &&& (2147483647 : Int32))) rfl (q := 18) rfl ?_
  refine g_i2l X0 hx (hb hby at_18) (z := zv) hz1 (q := 19) rfl ?_
  refine g_lstore X0 hx (hb hby at_19) (L' := #[.val (.int a), .val (.int b), .val (.int c0), .val (.int t), .val (.int n), .val (.long xv), .second, .val (.long yv), .second, .val (.long zv), .second, .unset, .unset, .unset, .unset, .unset, .unset, .unset, .unset, .unset, .unset, .unset, .unset]) rfl (q := 21) rfl ?_
  refine g_lload X0 hx (hb hby at_21) (v := xv) rfl (q := 23) rfl ?_
  refine g_lload X0 hx (hb hby at_23) (v := yv) rfl (q := 25) rfl ?_
  refine g_callS X0 hx hZ hown (hw _ (List.mem_of_getElem? (i := 1) rfl)) (hw _ (List.mem_of_getElem? (i := 2) rfl)) (hw _ (List.mem_of_getElem? (i := 3) rfl)) (hw _ (List.mem_of_getElem? (i := 4) rfl)) (by decide) e0 (rmMinL l Z a0 hw xv yv h0) (by exact hml.symm) (argsL := [(.long xv), (.long yv)]) (rest := []) rfl rfl pd_2 rfl (Nat.le_of_ble_eq_true rfl) (Nat.le_of_ble_eq_true rfl) (Nat.le_of_ble_eq_true rfl) (Nat.le_of_ble_eq_true rfl) (hb hby at_25) (q := 28) rfl (g_pure rfl rfl fun T187 X187 e187 => ?_)
  show Go p e below _ (T187.setTop (mkF m 28 #[.val (.int a), .val (.int b), .val (.int c0), .val (.int t), .val (.int n), .val (.long xv), .second, .val (.long yv), .second, .val (.long zv), .second, .unset, .unset, .unset, .unset, .unset, .unset, .unset, .unset, .unset, .unset, .unset, .unset] [(.long (own_minL xv yv))]))
  refine g_lload X187 hx (hb hby at_28) (v := zv) rfl (q := 30) rfl ?_
  refine g_callS X187 hx hZ hown (hw _ (List.mem_of_getElem? (i := 1) rfl)) (hw _ (List.mem_of_getElem? (i := 2) rfl)) (hw _ (List.mem_of_getElem? (i := 3) rfl)) (hw _ (List.mem_of_getElem? (i := 4) rfl)) (by decide) e187 (rmMinL l Z a0 hw (own_minL xv yv) zv h0) (by exact hml.symm) (argsL := [(.long (own_minL xv yv)), (.long zv)]) (rest := []) rfl rfl pd_2 rfl (Nat.le_of_ble_eq_true rfl) (Nat.le_of_ble_eq_true rfl) (Nat.le_of_ble_eq_true rfl) (Nat.le_of_ble_eq_true rfl) (hb hby at_30) (q := 33) rfl (g_pure rfl rfl fun T188 X188 e188 => ?_)
  show Go p e below _ (T188.setTop (mkF m 33 #[.val (.int a), .val (.int b), .val (.int c0), .val (.int t), .val (.int n), .val (.long xv), .second, .val (.long yv), .second, .val (.long zv), .second, .unset, .unset, .unset, .unset, .unset, .unset, .unset, .unset, .unset, .unset, .unset, .unset] [(.long (own_minL (own_minL xv yv) zv))]))
  refine g_lstore X188 hx (hb hby at_33) (L' := #[.val (.int a), .val (.int b), .val (.int c0), .val (.int t), .val (.int n), .val (.long xv), .second, .val (.long yv), .second, .val (.long zv), .second, .val (.long (own_minL (own_minL xv yv) zv)), .second, .unset, .unset, .unset, .unset, .unset, .unset, .unset, .unset, .unset, .unset]) rfl (q := 35) rfl ?_
  refine g_lload X188 hx (hb hby at_35) (v := xv) rfl (q := 37) rfl ?_
  refine g_lload X188 hx (hb hby at_37) (v := yv) rfl (q := 39) rfl ?_
  refine g_callS X188 hx hZ hown (hw _ (List.mem_of_getElem? (i := 5) rfl)) (hw _ (List.mem_of_getElem? (i := 6) rfl)) (hw _ (List.mem_of_getElem? (i := 3) rfl)) (hw _ (List.mem_of_getElem? (i := 7) rfl)) (by decide) e188 (rmMaxL l Z a0 hw xv yv h0) (by exact hml.symm) (argsL := [(.long xv), (.long yv)]) (rest := []) rfl rfl pd_2 rfl (Nat.le_of_ble_eq_true rfl) (Nat.le_of_ble_eq_true rfl) (Nat.le_of_ble_eq_true rfl) (Nat.le_of_ble_eq_true rfl) (hb hby at_39) (q := 42) rfl (g_pure rfl rfl fun T189 X189 e189 => ?_)
  show Go p e below _ (T189.setTop (mkF m 42 #[.val (.int a), .val (.int b), .val (.int c0), .val (.int t), .val (.int n), .val (.long xv), .second, .val (.long yv), .second, .val (.long zv), .second, .val (.long (own_minL (own_minL xv yv) zv)), .second, .unset, .unset, .unset, .unset, .unset, .unset, .unset, .unset, .unset, .unset] [(.long (own_maxL xv yv))]))
  refine g_lload X189 hx (hb hby at_42) (v := zv) rfl (q := 44) rfl ?_
  refine g_callS X189 hx hZ hown (hw _ (List.mem_of_getElem? (i := 5) rfl)) (hw _ (List.mem_of_getElem? (i := 6) rfl)) (hw _ (List.mem_of_getElem? (i := 3) rfl)) (hw _ (List.mem_of_getElem? (i := 7) rfl)) (by decide) e189 (rmMaxL l Z a0 hw (own_maxL xv yv) zv h0) (by exact hml.symm) (argsL := [(.long (own_maxL xv yv)), (.long zv)]) (rest := []) rfl rfl pd_2 rfl (Nat.le_of_ble_eq_true rfl) (Nat.le_of_ble_eq_true rfl) (Nat.le_of_ble_eq_true rfl) (Nat.le_of_ble_eq_true rfl) (hb hby at_44) (q := 47) rfl (g_pure rfl rfl fun T190 X190 e190 => ?_)
  show Go p e below _ (T190.setTop (mkF m 47 #[.val (.int a), .val (.int b), .val (.int c0), .val (.int t), .val (.int n), .val (.long xv), .second, .val (.long yv), .second, .val (.long zv), .second, .val (.long (own_minL (own_minL xv yv) zv)), .second, .unset, .unset, .unset, .unset, .unset, .unset, .unset, .unset, .unset, .unset] [(.long (own_maxL (own_maxL xv yv) zv))]))
  refine g_lstore X190 hx (hb hby at_47) (L' := #[.val (.int a), .val (.int b), .val (.int c0), .val (.int t), .val (.int n), .val (.long xv), .second, .val (.long yv), .second, .val (.long zv), .second, .val (.long (own_minL (own_minL xv yv) zv)), .second, .val (.long (own_maxL (own_maxL xv yv) zv)), .second, .unset, .unset, .unset, .unset, .unset, .unset, .unset, .unset]) rfl (q := 49) rfl ?_
  refine g_lload X190 hx (hb hby at_49) (v := xv) rfl (q := 51) rfl ?_
  refine g_lload X190 hx (hb hby at_51) (v := yv) rfl (q := 53) rfl ?_
  refine g_ladd X190 hx (hb hby at_53) (z := (xv + yv)) rfl (q := 54) rfl ?_
  refine g_lload X190 hx (hb hby at_54) (v := zv) rfl (q := 56) rfl ?_
  refine g_ladd X190 hx (hb hby at_56) (z := ((xv + yv) + zv)) rfl (q := 57) rfl ?_
  refine g_lload X190 hx (hb hby at_57) (v := (own_minL (own_minL xv yv) zv)) rfl (q := 59) rfl ?_
  refine g_lsub X190 hx (hb hby at_59) (z := (((xv + yv) + zv) - (own_minL (own_minL xv yv) zv))) rfl (q := 60) rfl ?_
  refine g_lload X190 hx (hb hby at_60) (v := (own_maxL (own_maxL xv yv) zv)) rfl (q := 62) rfl ?_
  refine g_lsub X190 hx (hb hby at_62) (z := ((((xv + yv) + zv) - (own_minL (own_minL xv yv) zv)) - (own_maxL (own_maxL xv yv) zv))) rfl (q := 63) rfl ?_
  refine g_lstore X190 hx (hb hby at_63) (L' := #[.val (.int a), .val (.int b), .val (.int c0), .val (.int t), .val (.int n), .val (.long xv), .second, .val (.long yv), .second, .val (.long zv), .second, .val (.long (own_minL (own_minL xv yv) zv)), .second, .val (.long (own_maxL (own_maxL xv yv) zv)), .second, .val (.long ((((xv + yv) + zv) - (own_minL (own_minL xv yv) zv)) - (own_maxL (own_maxL xv yv) zv))), .second, .unset, .unset, .unset, .unset, .unset, .unset]) rfl (q := 65) rfl ?_
  refine g_lload X190 hx (hb hby at_65) (v := (own_minL (own_minL xv yv) zv)) rfl (q := 67) rfl ?_
  refine g_l2i X190 hx (hb hby at_67) (z := p0) hp0 (q := 68) rfl ?_
  refine g_istore X190 hx (hb hby at_68) (L' := #[.val (.int a), .val (.int b), .val (.int c0), .val (.int t), .val (.int n), .val (.long xv), .second, .val (.long yv), .second, .val (.long zv), .second, .val (.long (own_minL (own_minL xv yv) zv)), .second, .val (.long (own_maxL (own_maxL xv yv) zv)), .second, .val (.long ((((xv + yv) + zv) - (own_minL (own_minL xv yv) zv)) - (own_maxL (own_maxL xv yv) zv))), .second, .val (.int p0), .unset, .unset, .unset, .unset, .unset]) rfl (q := 70) rfl ?_
  refine g_lload X190 hx (hb hby at_70) (v := ((((xv + yv) + zv) - (own_minL (own_minL xv yv) zv)) - (own_maxL (own_maxL xv yv) zv))) rfl (q := 72) rfl ?_
  refine g_l2i X190 hx (hb hby at_72) (z := p1) hp1 (q := 73) rfl ?_
  refine g_istore X190 hx (hb hby at_73) (L' := #[.val (.int a), .val (.int b), .val (.int c0), .val (.int t), .val (.int n), .val (.long xv), .second, .val (.long yv), .second, .val (.long zv), .second, .val (.long (own_minL (own_minL xv yv) zv)), .second, .val (.long (own_maxL (own_maxL xv yv) zv)), .second, .val (.long ((((xv + yv) + zv) - (own_minL (own_minL xv yv) zv)) - (own_maxL (own_maxL xv yv) zv))), .second, .val (.int p0), .val (.int p1), .unset, .unset, .unset, .unset]) rfl (q := 75) rfl ?_
  refine g_lload X190 hx (hb hby at_75) (v := (own_maxL (own_maxL xv yv) zv)) rfl (q := 77) rfl ?_
  refine g_l2i X190 hx (hb hby at_77) (z := p2) hp2 (q := 78) rfl ?_
  refine g_istore X190 hx (hb hby at_78) (L' := #[.val (.int a), .val (.int b), .val (.int c0), .val (.int t), .val (.int n), .val (.long xv), .second, .val (.long yv), .second, .val (.long zv), .second, .val (.long (own_minL (own_minL xv yv) zv)), .second, .val (.long (own_maxL (own_maxL xv yv) zv)), .second, .val (.long ((((xv + yv) + zv) - (own_minL (own_minL xv yv) zv)) - (own_maxL (own_maxL xv yv) zv))), .second, .val (.int p0), .val (.int p1), .val (.int p2), .unset, .unset, .unset]) rfl (q := 80) rfl ?_
  refine g_iload X190 hx (hb hby at_80) (v := n) rfl (q := 82) rfl ?_
  refine g_iconst X190 hx (hb hby at_82) (n := (3 : Int32)) (by decide) (q := 83) rfl ?_
  refine g_iand X190 hx (hb hby at_83) (z := (0 : Int32)) hk (q := 84) rfl ?_
  refine g_istore X190 hx (hb hby at_84) (L' := #[.val (.int a), .val (.int b), .val (.int c0), .val (.int t), .val (.int n), .val (.long xv), .second, .val (.long yv), .second, .val (.long zv), .second, .val (.long (own_minL (own_minL xv yv) zv)), .second, .val (.long (own_maxL (own_maxL xv yv) zv)), .second, .val (.long ((((xv + yv) + zv) - (own_minL (own_minL xv yv) zv)) - (own_maxL (own_maxL xv yv) zv))), .second, .val (.int p0), .val (.int p1), .val (.int p2), .val (.int (0 : Int32)), .unset, .unset]) rfl (q := 86) rfl ?_
  refine g_new X190 hx hZ hown (hw _ (List.mem_of_getElem? (i := 8) rfl)) (hw _ (List.mem_of_getElem? (i := 9) rfl)) (hw _ (List.mem_of_getElem? (i := 10) rfl)) e190 (hb hby at_86) (Nat.le_of_ble_eq_true rfl) (Nat.le_of_ble_eq_true rfl) (q := 89) rfl fun T191 h191 bi g191 X191 e191 E191 A191 D191 => ?_
  have ge_bi : n0 ≤ bi := Nat.le_trans Z0 (Nat.le_of_eq g191.symm)
  have z_191 := Nat.le_trans Z0 E191.1
  have F191_entries : Fld Z h191 bi "com/example/newlyn/newlyn/storage/SegmentIndex" "entries" "[J" .null := D191 (Or.inl (hw _ (List.mem_of_getElem? (i := 19) rfl))) (ty := (.array .long)) (by decide)
  have F191_count : Fld Z h191 bi "com/example/newlyn/newlyn/storage/SegmentIndex" "count" "I" (.int (0 : Int32)) := D191 (Or.inl (hw _ (List.mem_of_getElem? (i := 26) rfl))) (ty := .int) (by decide)
  refine g_dup X191 hx (hb hby at_89) rfl (q := 90) rfl ?_
  refine g_callI X191 hx hZ hown rfl (hw _ (List.mem_of_getElem? (i := 11) rfl)) (hw _ (List.mem_of_getElem? (i := 12) rfl)) (hw _ (List.mem_of_getElem? (i := 13) rfl)) (hw _ (List.mem_of_getElem? (i := 10) rfl)) (by decide) e191 (b := bi) (rmC l Z a0 hw bi h191 n0 z_191 ge_bi A191 F191_entries F191_count) (by exact hml.symm) (argsL := []) (rest := [(.ref bi)]) rfl rfl pd_3 rfl (Nat.le_of_ble_eq_true rfl) (Nat.le_of_ble_eq_true rfl) (Nat.le_of_ble_eq_true rfl) (Nat.le_of_ble_eq_true rfl) (hb hby at_90) (q := 93) rfl (fun v192 T192 L192 X192 hQ192 => ?_)
  generalize e192 : T192.heap = h192 at hQ192
  obtain ⟨rfl, M192, K192, A192, ae, g192, B192, C192, V192⟩ := hQ192
  have N192 := Fr.app (Fr.nil n0) M192
  have ne_bi_ae : bi ≠ ae := Nat.ne_of_lt (Nat.lt_of_lt_of_le A191.lt g192)
  have ge_ae : n0 ≤ ae := Nat.le_trans z_191 g192
  have Z192 : n0 ≤ h192.size := Nat.le_trans z_191 K192.1
  show Go p e below _ (T192.setTop (mkF m 93 #[.val (.int a), .val (.int b), .val (.int c0), .val (.int t), .val (.int n), .val (.long xv), .second, .val (.long yv), .second, .val (.long zv), .second, .val (.long (own_minL (own_minL xv yv) zv)), .second, .val (.long (own_maxL (own_maxL xv yv) zv)), .second, .val (.long ((((xv + yv) + zv) - (own_minL (own_minL xv yv) zv)) - (own_maxL (own_maxL xv yv) zv))), .second, .val (.int p0), .val (.int p1), .val (.int p2), .val (.int (0 : Int32)), .unset, .unset] [(.ref bi)]))
  refine g_astore X192 hx (hb hby at_93) rfl (L' := #[.val (.int a), .val (.int b), .val (.int c0), .val (.int t), .val (.int n), .val (.long xv), .second, .val (.long yv), .second, .val (.long zv), .second, .val (.long (own_minL (own_minL xv yv) zv)), .second, .val (.long (own_maxL (own_maxL xv yv) zv)), .second, .val (.long ((((xv + yv) + zv) - (own_minL (own_minL xv yv) zv)) - (own_maxL (own_maxL xv yv) zv))), .second, .val (.int p0), .val (.int p1), .val (.int p2), .val (.int (0 : Int32)), .val (.ref bi), .unset]) rfl (q := 95) rfl ?_
  refine g_iload X192 hx (hb hby at_95) (v := (0 : Int32)) rfl (q := 97) rfl ?_
  refine g_if_le X192 hx (hb hby at_97) (by decide) (q := 109) (by decide) (q2 := 100) rfl (fun hb97 => ?_) (fun hb97 => absurd hb97 (by decide))
  refine g_iload X192 hx (hb hby at_109) (v := (0 : Int32)) rfl (q := 111) rfl ?_
  refine g_iconst X192 hx (hb hby at_111) (n := (1 : Int32)) (by decide) (q := 112) rfl ?_
  refine g_icmp_le X192 hx (hb hby at_112) (by decide) (q := 124) (by decide) (q2 := 115) rfl (fun hb112 => ?_) (fun hb112 => absurd hb112 (by decide))
  refine g_iload X192 hx (hb hby at_124) (v := (0 : Int32)) rfl (q := 126) rfl ?_
  refine g_iconst X192 hx (hb hby at_126) (n := (2 : Int32)) (by decide) (q := 127) rfl ?_
  refine g_icmp_le X192 hx (hb hby at_127) (by decide) (q := 141) (by decide) (q2 := 130) rfl (fun hb127 => ?_) (fun hb127 => absurd hb127 (by decide))
  refine g_aload X192 hx (hb hby at_141) (v := (.ref bi)) rfl rfl (q := 143) rfl ?_
  refine g_iloadN X192 hx (hb hby at_143) (v := t) rfl (q := 144) rfl ?_
  refine g_callV X192 hx hZ hown (hw _ (List.mem_of_getElem? (i := 20) rfl)) (hw _ (List.mem_of_getElem? (i := 21) rfl)) (hw _ (List.mem_of_getElem? (i := 23) rfl)) (hw _ (List.mem_of_getElem? (i := 22) rfl)) (hw _ (List.mem_of_getElem? (i := 24) rfl)) (hw _ (List.mem_of_getElem? (i := 10) rfl)) (notFace_of_selects (args := #[]) (mvT hZ (hw _ (List.mem_of_getElem? (i := 23) rfl)))) (by decide) e192 A192 (rmT0 l Z a0 hw bi ae t (fun _ => .long (0 : Int64)) h192 n0 ge_bi ne_bi_ae A192 B192 C192 V192) (by exact hml.symm) (argsL := [(.int t)]) (rest := []) rfl rfl pd_4 rfl (Nat.le_of_ble_eq_true rfl) (Nat.le_of_ble_eq_true rfl) (Nat.le_of_ble_eq_true rfl) (Nat.le_of_ble_eq_true rfl) (hb hby at_144) (q := 147) rfl (fun v193 T193 L193 X193 hQ193 => ?_)
  generalize e193 : T193.heap = h193 at hQ193
  obtain ⟨rfl, M193, K193, A193, B193, C193⟩ := hQ193
  have N193 := Fr.app N192 M193
  have Z193 : n0 ≤ h193.size := Nat.le_trans Z192 K193.1
  have V193 := V192.keep K193 (ninS (Ne.symm ne_bi_ae) nin0)
  rw [show own_tr0 t = (0 : Int32) from rfl] at C193
  show Go p e below _ (T193.setTop (mkF m 147 #[.val (.int a), .val (.int b), .val (.int c0), .val (.int t), .val (.int n), .val (.long xv), .second, .val (.long yv), .second, .val (.long zv), .second, .val (.long (own_minL (own_minL xv yv) zv)), .second, .val (.long (own_maxL (own_maxL xv yv) zv)), .second, .val (.long ((((xv + yv) + zv) - (own_minL (own_minL xv yv) zv)) - (own_maxL (own_maxL xv yv) zv))), .second, .val (.int p0), .val (.int p1), .val (.int p2), .val (.int (0 : Int32)), .val (.ref bi), .unset] []))
  refine g_iconst X193 hx (hb hby at_147) (n := (0 : Int32)) (by decide) (q := 148) rfl ?_
  refine g_istore X193 hx (hb hby at_148) (L' := #[.val (.int a), .val (.int b), .val (.int c0), .val (.int t), .val (.int n), .val (.long xv), .second, .val (.long yv), .second, .val (.long zv), .second, .val (.long (own_minL (own_minL xv yv) zv)), .second, .val (.long (own_maxL (own_maxL xv yv) zv)), .second, .val (.long ((((xv + yv) + zv) - (own_minL (own_minL xv yv) zv)) - (own_maxL (own_maxL xv yv) zv))), .second, .val (.int p0), .val (.int p1), .val (.int p2), .val (.int (0 : Int32)), .val (.ref bi), .val (.int (0 : Int32))]) rfl (q := 150) rfl ?_
  refine g_iload X193 hx (hb hby at_150) (v := (0 : Int32)) rfl (q := 152) rfl ?_
  refine g_if_le X193 hx (hb hby at_152) (by decide) (q := 164) (by decide) (q2 := 155) rfl (fun hb152 => ?_) (fun hb152 => absurd hb152 (by decide))
  refine g_iload X193 hx (hb hby at_164) (v := (0 : Int32)) rfl (q := 166) rfl ?_
  refine g_iconst X193 hx (hb hby at_166) (n := (1 : Int32)) (by decide) (q := 167) rfl ?_
  refine g_icmp_ne X193 hx (hb hby at_167) (by decide) (q := 185) (by decide) (q2 := 170) rfl (fun hb167 => ?_) (fun hb167 => absurd hb167 (by decide))
  refine g_iload X193 hx (hb hby at_185) (v := (0 : Int32)) rfl (q := 187) rfl ?_
  refine g_iconst X193 hx (hb hby at_187) (n := (2 : Int32)) (by decide) (q := 188) rfl ?_
  refine g_icmp_ne X193 hx (hb hby at_188) (by decide) (q := 206) (by decide) (q2 := 191) rfl (fun hb188 => ?_) (fun hb188 => absurd hb188 (by decide))
  refine g_aload X193 hx (hb hby at_206) (v := (.ref bi)) rfl rfl (q := 208) rfl ?_
  refine g_lconst X193 hx (hb hby at_208) (n := (0 : Int64)) (by decide) (q := 209) rfl ?_
  refine g_callVH X193 hx hH hown (hw _ (List.mem_of_getElem? (i := 27) rfl)) (hw _ (List.mem_of_getElem? (i := 28) rfl)) (hw _ (List.mem_of_getElem? (i := 30) rfl)) (hw _ (List.mem_of_getElem? (i := 29) rfl)) (hw _ (List.mem_of_getElem? (i := 31) rfl)) (hw _ (List.mem_of_getElem? (i := 10) rfl)) (notFace_of_selects (args := #[]) (mvT hZ (hw _ (List.mem_of_getElem? (i := 30) rfl)))) (by decide) e193 A193 (rmF00 l Z a0 hw bi ae (fun _ => .long (0 : Int64)) h193 A193 B193 C193 V193) (by exact hml.symm) (argsL := [(.long (0 : Int64))]) (rest := []) rfl rfl pd_5 rfl (Nat.le_of_ble_eq_true rfl) (Nat.le_of_ble_eq_true rfl) (Nat.le_of_ble_eq_true rfl) (Nat.le_of_ble_eq_true rfl) (hb hby at_209) (q := 212) rfl (fun v194 T194 L194 X194 hQ194 => ?_)
  generalize e194 : T194.heap = h194 at hQ194
  obtain ⟨rfl, rfl, E194⟩ := hQ194
  have z_194 := Nat.le_trans Z193 E194.1
  have f195 := (A193.ext E194)
  have f196 := (B193.ext E194)
  have f197 := (C193.ext E194)
  have f198 := (V193.ext E194)
  have N194 := Fr.app N193 (Fr.nil n0)
  show Go p e below _ (T194.setTop (mkF m 212 #[.val (.int a), .val (.int b), .val (.int c0), .val (.int t), .val (.int n), .val (.long xv), .second, .val (.long yv), .second, .val (.long zv), .second, .val (.long (own_minL (own_minL xv yv) zv)), .second, .val (.long (own_maxL (own_maxL xv yv) zv)), .second, .val (.long ((((xv + yv) + zv) - (own_minL (own_minL xv yv) zv)) - (own_maxL (own_maxL xv yv) zv))), .second, .val (.int p0), .val (.int p1), .val (.int p2), .val (.int (0 : Int32)), .val (.ref bi), .val (.int (0 : Int32))] [(.int (0 : Int32))]))
  refine g_iconst X194 hx (hb hby at_212) (n := (0 : Int32)) (by decide) (q := 213) rfl ?_
  refine g_iload X194 hx (hb hby at_213) (v := (0 : Int32)) rfl (q := 215) rfl ?_
  refine g_iload X194 hx (hb hby at_215) (v := p0) rfl (q := 217) rfl ?_
  refine g_iload X194 hx (hb hby at_217) (v := p1) rfl (q := 219) rfl ?_
  refine g_iload X194 hx (hb hby at_219) (v := p2) rfl (q := 221) rfl ?_
  refine g_callS X194 hx hZ hown (hw _ (List.mem_of_getElem? (i := 40) rfl)) (hw _ (List.mem_of_getElem? (i := 41) rfl)) (hw _ (List.mem_of_getElem? (i := 42) rfl)) (hw _ (List.mem_of_getElem? (i := 43) rfl)) (by decide) e194 (rmX l Z a0 hw (0 : Int32) (0 : Int32) p0 p1 p2 (0 : Int32) (own_exp_00 p0 p1 p2) h194) (by exact hml.symm) (argsL := [(.int (0 : Int32)), (.int (0 : Int32)), (.int p0), (.int p1), (.int p2)]) (rest := [(.int (0 : Int32))]) rfl rfl pd_6 rfl (Nat.le_of_ble_eq_true rfl) (Nat.le_of_ble_eq_true rfl) (Nat.le_of_ble_eq_true rfl) (Nat.le_of_ble_eq_true rfl) (hb hby at_221) (q := 224) rfl (g_pure rfl rfl fun T199 X199 e199 => ?_)
  show Go p e below _ (T199.setTop (mkF m 224 #[.val (.int a), .val (.int b), .val (.int c0), .val (.int t), .val (.int n), .val (.long xv), .second, .val (.long yv), .second, .val (.long zv), .second, .val (.long (own_minL (own_minL xv yv) zv)), .second, .val (.long (own_maxL (own_maxL xv yv) zv)), .second, .val (.long ((((xv + yv) + zv) - (own_minL (own_minL xv yv) zv)) - (own_maxL (own_maxL xv yv) zv))), .second, .val (.int p0), .val (.int p1), .val (.int p2), .val (.int (0 : Int32)), .val (.ref bi), .val (.int (0 : Int32))] [(.int (0 : Int32)), (.int (0 : Int32))]))
  refine g_icmp_ne X199 hx (hb hby at_224) (by decide) (q := 275) (by decide) (q2 := 227) rfl (fun hb224 => absurd hb224 (not_not_intro rfl)) (fun hb224 => ?_)
  refine g_aload X199 hx (hb hby at_227) (v := (.ref bi)) rfl rfl (q := 229) rfl ?_
  refine g_lconst X199 hx (hb hby at_229) (n := (1 : Int64)) (by decide) (q := 230) rfl ?_
  refine g_callVH X199 hx hH hown (hw _ (List.mem_of_getElem? (i := 27) rfl)) (hw _ (List.mem_of_getElem? (i := 28) rfl)) (hw _ (List.mem_of_getElem? (i := 30) rfl)) (hw _ (List.mem_of_getElem? (i := 29) rfl)) (hw _ (List.mem_of_getElem? (i := 31) rfl)) (hw _ (List.mem_of_getElem? (i := 10) rfl)) (notFace_of_selects (args := #[]) (mvT hZ (hw _ (List.mem_of_getElem? (i := 30) rfl)))) (by decide) e199 f195 (rmF01 l Z a0 hw bi ae (fun _ => .long (0 : Int64)) h194 f195 f196 f197 f198) (by exact hml.symm) (argsL := [(.long (1 : Int64))]) (rest := []) rfl rfl pd_5 rfl (Nat.le_of_ble_eq_true rfl) (Nat.le_of_ble_eq_true rfl) (Nat.le_of_ble_eq_true rfl) (Nat.le_of_ble_eq_true rfl) (hb hby at_230) (q := 233) rfl (fun v200 T200 L200 X200 hQ200 => ?_)
  generalize e200 : T200.heap = h200 at hQ200
  obtain ⟨rfl, rfl, E200⟩ := hQ200
  have z_200 := Nat.le_trans z_194 E200.1
  have f201 := (f195.ext E200)
  have f202 := (f196.ext E200)
  have f203 := (f197.ext E200)
  have f204 := (f198.ext E200)
  have N200 := Fr.app N194 (Fr.nil n0)
  show Go p e below _ (T200.setTop (mkF m 233 #[.val (.int a), .val (.int b), .val (.int c0), .val (.int t), .val (.int n), .val (.long xv), .second, .val (.long yv), .second, .val (.long zv), .second, .val (.long (own_minL (own_minL xv yv) zv)), .second, .val (.long (own_maxL (own_maxL xv yv) zv)), .second, .val (.long ((((xv + yv) + zv) - (own_minL (own_minL xv yv) zv)) - (own_maxL (own_maxL xv yv) zv))), .second, .val (.int p0), .val (.int p1), .val (.int p2), .val (.int (0 : Int32)), .val (.ref bi), .val (.int (0 : Int32))] [(.int (0 : Int32))]))
  refine g_iconst X200 hx (hb hby at_233) (n := (1 : Int32)) (by decide) (q := 234) rfl ?_
  refine g_iload X200 hx (hb hby at_234) (v := (0 : Int32)) rfl (q := 236) rfl ?_
  refine g_iload X200 hx (hb hby at_236) (v := p0) rfl (q := 238) rfl ?_
  refine g_iload X200 hx (hb hby at_238) (v := p1) rfl (q := 240) rfl ?_
  refine g_iload X200 hx (hb hby at_240) (v := p2) rfl (q := 242) rfl ?_
  refine g_callS X200 hx hZ hown (hw _ (List.mem_of_getElem? (i := 40) rfl)) (hw _ (List.mem_of_getElem? (i := 41) rfl)) (hw _ (List.mem_of_getElem? (i := 42) rfl)) (hw _ (List.mem_of_getElem? (i := 43) rfl)) (by decide) e200 (rmX l Z a0 hw (1 : Int32) (0 : Int32) p0 p1 p2 (0 : Int32) (own_exp_10 p0 p1 p2) h200) (by exact hml.symm) (argsL := [(.int (1 : Int32)), (.int (0 : Int32)), (.int p0), (.int p1), (.int p2)]) (rest := [(.int (0 : Int32))]) rfl rfl pd_6 rfl (Nat.le_of_ble_eq_true rfl) (Nat.le_of_ble_eq_true rfl) (Nat.le_of_ble_eq_true rfl) (Nat.le_of_ble_eq_true rfl) (hb hby at_242) (q := 245) rfl (g_pure rfl rfl fun T205 X205 e205 => ?_)
  show Go p e below _ (T205.setTop (mkF m 245 #[.val (.int a), .val (.int b), .val (.int c0), .val (.int t), .val (.int n), .val (.long xv), .second, .val (.long yv), .second, .val (.long zv), .second, .val (.long (own_minL (own_minL xv yv) zv)), .second, .val (.long (own_maxL (own_maxL xv yv) zv)), .second, .val (.long ((((xv + yv) + zv) - (own_minL (own_minL xv yv) zv)) - (own_maxL (own_maxL xv yv) zv))), .second, .val (.int p0), .val (.int p1), .val (.int p2), .val (.int (0 : Int32)), .val (.ref bi), .val (.int (0 : Int32))] [(.int (0 : Int32)), (.int (0 : Int32))]))
  refine g_icmp_ne X205 hx (hb hby at_245) (by decide) (q := 275) (by decide) (q2 := 248) rfl (fun hb245 => absurd hb245 (not_not_intro rfl)) (fun hb245 => ?_)
  refine g_aload X205 hx (hb hby at_248) (v := (.ref bi)) rfl rfl (q := 250) rfl ?_
  refine g_ldcJ X205 hx hZ hown (hw _ (List.mem_of_getElem? (i := 47) rfl)) (hb hby at_250) (q := 253) rfl ?_
  refine g_callVH X205 hx hH hown (hw _ (List.mem_of_getElem? (i := 27) rfl)) (hw _ (List.mem_of_getElem? (i := 28) rfl)) (hw _ (List.mem_of_getElem? (i := 30) rfl)) (hw _ (List.mem_of_getElem? (i := 29) rfl)) (hw _ (List.mem_of_getElem? (i := 31) rfl)) (hw _ (List.mem_of_getElem? (i := 10) rfl)) (notFace_of_selects (args := #[]) (mvT hZ (hw _ (List.mem_of_getElem? (i := 30) rfl)))) (by decide) e205 f201 (rmF02 l Z a0 hw bi ae (fun _ => .long (0 : Int64)) h200 f201 f202 f203 f204) (by exact hml.symm) (argsL := [(.long (2 : Int64))]) (rest := []) rfl rfl pd_5 rfl (Nat.le_of_ble_eq_true rfl) (Nat.le_of_ble_eq_true rfl) (Nat.le_of_ble_eq_true rfl) (Nat.le_of_ble_eq_true rfl) (hb hby at_253) (q := 256) rfl (fun v206 T206 L206 X206 hQ206 => ?_)
  generalize e206 : T206.heap = h206 at hQ206
  obtain ⟨rfl, rfl, E206⟩ := hQ206
  have z_206 := Nat.le_trans z_200 E206.1
  have f207 := (f201.ext E206)
  have f208 := (f202.ext E206)
  have f209 := (f203.ext E206)
  have f210 := (f204.ext E206)
  have N206 := Fr.app N200 (Fr.nil n0)
  show Go p e below _ (T206.setTop (mkF m 256 #[.val (.int a), .val (.int b), .val (.int c0), .val (.int t), .val (.int n), .val (.long xv), .second, .val (.long yv), .second, .val (.long zv), .second, .val (.long (own_minL (own_minL xv yv) zv)), .second, .val (.long (own_maxL (own_maxL xv yv) zv)), .second, .val (.long ((((xv + yv) + zv) - (own_minL (own_minL xv yv) zv)) - (own_maxL (own_maxL xv yv) zv))), .second, .val (.int p0), .val (.int p1), .val (.int p2), .val (.int (0 : Int32)), .val (.ref bi), .val (.int (0 : Int32))] [(.int (0 : Int32))]))
  refine g_iconst X206 hx (hb hby at_256) (n := (2 : Int32)) (by decide) (q := 257) rfl ?_
  refine g_iload X206 hx (hb hby at_257) (v := (0 : Int32)) rfl (q := 259) rfl ?_
  refine g_iload X206 hx (hb hby at_259) (v := p0) rfl (q := 261) rfl ?_
  refine g_iload X206 hx (hb hby at_261) (v := p1) rfl (q := 263) rfl ?_
  refine g_iload X206 hx (hb hby at_263) (v := p2) rfl (q := 265) rfl ?_
  refine g_callS X206 hx hZ hown (hw _ (List.mem_of_getElem? (i := 40) rfl)) (hw _ (List.mem_of_getElem? (i := 41) rfl)) (hw _ (List.mem_of_getElem? (i := 42) rfl)) (hw _ (List.mem_of_getElem? (i := 43) rfl)) (by decide) e206 (rmX l Z a0 hw (2 : Int32) (0 : Int32) p0 p1 p2 (0 : Int32) (own_exp_20 p0 p1 p2) h206) (by exact hml.symm) (argsL := [(.int (2 : Int32)), (.int (0 : Int32)), (.int p0), (.int p1), (.int p2)]) (rest := [(.int (0 : Int32))]) rfl rfl pd_6 rfl (Nat.le_of_ble_eq_true rfl) (Nat.le_of_ble_eq_true rfl) (Nat.le_of_ble_eq_true rfl) (Nat.le_of_ble_eq_true rfl) (hb hby at_265) (q := 268) rfl (g_pure rfl rfl fun T211 X211 e211 => ?_)
  show Go p e below _ (T211.setTop (mkF m 268 #[.val (.int a), .val (.int b), .val (.int c0), .val (.int t), .val (.int n), .val (.long xv), .second, .val (.long yv), .second, .val (.long zv), .second, .val (.long (own_minL (own_minL xv yv) zv)), .second, .val (.long (own_maxL (own_maxL xv yv) zv)), .second, .val (.long ((((xv + yv) + zv) - (own_minL (own_minL xv yv) zv)) - (own_maxL (own_maxL xv yv) zv))), .second, .val (.int p0), .val (.int p1), .val (.int p2), .val (.int (0 : Int32)), .val (.ref bi), .val (.int (0 : Int32))] [(.int (0 : Int32)), (.int (0 : Int32))]))
  refine g_icmp_ne X211 hx (hb hby at_268) (by decide) (q := 275) (by decide) (q2 := 271) rfl (fun hb268 => absurd hb268 (not_not_intro rfl)) (fun hb268 => ?_)
  refine g_iconst X211 hx (hb hby at_271) (n := (1 : Int32)) (by decide) (q := 272) rfl ?_
  refine g_goto X211 hx (hb hby at_272) (by decide) (q := 276) (by decide) ?_
  exact g_retB X211 hx hret hlk (hb hby at_276) (by decide) ⟨rfl, by simpa using N206⟩ (Nat.le_of_ble_eq_true rfl) (Nat.le_of_ble_eq_true rfl)
set_option maxRecDepth 65536 in
set_option maxHeartbeats 40000000 in
theorem law10 (l : Launch) (Z : State) (a0 : Array Value) (hw : ∀ d ∈ tables_1, d.before a0 Z = true) (a b c0 t n : Int32) (xv yv zv : Int64) (p0 p1 p2 : Int32) (h0 : Heap) (n0 : Nat) (Z0 : n0 ≤ h0.size) (hx1 : (a &&& (2147483647 : Int32)).toInt64 = xv) (hy1 : (b &&& (2147483647 : Int32)).toInt64 = yv) (hz1 : (c0 &&& (2147483647 : Int32)).toInt64 = zv) (hp0 : (own_minL (own_minL xv yv) zv).toInt32 = p0) (hp1 : ((((xv + yv) + zv) - (own_minL (own_minL xv yv) zv)) - (own_maxL (own_maxL xv yv) zv)).toInt32 = p1) (hp2 : (own_maxL (own_maxL xv yv) zv).toInt32 = p2) (g0 : ¬ p0 < 0) (g1 : ¬ p1 < 0) (g2 : ¬ p2 < 0) (hk : n &&& (3 : Int32) = 1) (lt0 : ¬ p0 < t) :
    ConH l Z h0 x code maxLocals ret room_1 #[(.int a), (.int b), (.int c0), (.int t), (.int n)] (fun v h L => v = some (.int 1) ∧ Fr n0 L) := by
  refine con_ofH (plainFor_of_name pn_0) (Ls := #[.val (.int a), .val (.int b), .val (.int c0), .val (.int t), .val (.int n), .unset, .unset, .unset, .unset, .unset, .unset, .unset, .unset, .unset, .unset, .unset, .unset, .unset, .unset, .unset, .unset, .unset, .unset]) (fun m => by first | (simp [entryFrame, mkF, argsToLocals, Value.category, maxLocals]; done) | rfl) ?_
  intro p e s m below meth c s₁ hx hH hby hml hret hlk hnm hown hnamed X0 e0
  have hZ := hH.wide
  refine g_iloadN X0 hx (hb hby at_0) (v := a) rfl (q := 1) rfl ?_
  refine g_ldcI X0 hx hZ hown (hw _ (List.mem_of_getElem? (i := 0) rfl)) (hb hby at_1) (q := 3) rfl ?_
  refine g_iand X0 hx (hb hby at_3) (z := (a &&& (2147483647 : Int32))) rfl (q := 4) rfl ?_
  refine g_i2l X0 hx (hb hby at_4) (z := xv) hx1 (q := 5) rfl ?_
  refine g_lstore X0 hx (hb hby at_5) (L' := #[.val (.int a), .val (.int b), .val (.int c0), .val (.int t), .val (.int n), .val (.long xv), .second, .unset, .unset, .unset, .unset, .unset, .unset, .unset, .unset, .unset, .unset, .unset, .unset, .unset, .unset, .unset, .unset]) rfl (q := 7) rfl ?_
  refine g_iloadN X0 hx (hb hby at_7) (v := b) rfl (q := 8) rfl ?_
  refine g_ldcI X0 hx hZ hown (hw _ (List.mem_of_getElem? (i := 0) rfl)) (hb hby at_8) (q := 10) rfl ?_
  refine g_iand X0 hx (hb hby at_10) (z := (b &&& (2147483647 : Int32))) rfl (q := 11) rfl ?_
  refine g_i2l X0 hx (hb hby at_11) (z := yv) hy1 (q := 12) rfl ?_
  refine g_lstore X0 hx (hb hby at_12) (L' := #[.val (.int a), .val (.int b), .val (.int c0), .val (.int t), .val (.int n), .val (.long xv), .second, .val (.long yv), .second, .unset, .unset, .unset, .unset, .unset, .unset, .unset, .unset, .unset, .unset, .unset, .unset, .unset, .unset]) rfl (q := 14) rfl ?_
  refine g_iloadN X0 hx (hb hby at_14) (v := c0) rfl (q := 15) rfl ?_
  refine g_ldcI X0 hx hZ hown (hw _ (List.mem_of_getElem? (i := 0) rfl)) (hb hby at_15) (q := 17) rfl ?_
  refine g_iand X0 hx (hb hby at_17) (z := (c0 &&& (2147483647 : Int32))) rfl (q := 18) rfl ?_
  refine g_i2l X0 hx (hb hby at_18) (z := zv) hz1 (q := 19) rfl ?_
  refine g_lstore X0 hx (hb hby at_19) (L' := #[.val (.int a), .val (.int b), .val (.int c0), .val (.int t), .val (.int n), .val (.long xv), .second, .val (.long yv), .second, .val (.long zv), .second, .unset, .unset, .unset, .unset, .unset, .unset, .unset, .unset, .unset, .unset, .unset, .unset]) rfl (q := 21) rfl ?_
  refine g_lload X0 hx (hb hby at_21) (v := xv) rfl (q := 23) rfl ?_
  refine g_lload X0 hx (hb hby at_23) (v := yv) rfl (q := 25) rfl ?_
  refine g_callS X0 hx hZ hown (hw _ (List.mem_of_getElem? (i := 1) rfl)) (hw _ (List.mem_of_getElem? (i := 2) rfl)) (hw _ (List.mem_of_getElem? (i := 3) rfl)) (hw _ (List.mem_of_getElem? (i := 4) rfl)) (by decide) e0 (rmMinL l Z a0 hw xv yv h0) (by exact hml.symm) (argsL := [(.long xv), (.long yv)]) (rest := []) rfl rfl pd_2 rfl (Nat.le_of_ble_eq_true rfl) (Nat.le_of_ble_eq_true rfl) (Nat.le_of_ble_eq_true rfl) (Nat.le_of_ble_eq_true rfl) (hb hby at_25) (q := 28) rfl (g_pure rfl rfl fun T212 X212 e212 => ?_)
  show Go p e below _ (T212.setTop (mkF m 28 #[.val (.int a), .val (.int b), .val (.int c0), .val (.int t), .val (.int n), .val (.long xv), .second, .val (.long yv), .second, .val (.long zv), .second, .unset, .unset, .unset, .unset, .unset, .unset, .unset, .unset, .unset, .unset, .unset, .unset] [(.long (own_minL xv yv))]))
  refine g_lload X212 hx (hb hby at_28) (v := zv) rfl (q := 30) rfl ?_
  refine g_callS X212 hx hZ hown (hw _ (List.mem_of_getElem? (i := 1) rfl)) (hw _ (List.mem_of_getElem? (i := 2) rfl)) (hw _ (List.mem_of_getElem? (i := 3) rfl)) (hw _ (List.mem_of_getElem? (i := 4) rfl)) (by decide) e212 (rmMinL l Z a0 hw (own_minL xv yv) zv h0) (by exact hml.symm) (argsL := [(.long (own_minL xv yv)), (.long zv)]) (rest := []) rfl rfl pd_2 rfl (Nat.le_of_ble_eq_true rfl) (Nat.le_of_ble_eq_true rfl) (Nat.le_of_ble_eq_true rfl) (Nat.le_of_ble_eq_true rfl) (hb hby at_30) (q := 33) rfl (g_pure rfl rfl fun T213 X213 e213 => ?_)
  show Go p e below _ (T213.setTop (mkF m 33 #[.val (.int a), .val (.int b), .val (.int c0), .val (.int t), .val (.int n), .val (.long xv), .second, .val (.long yv), .second, .val (.long zv), .second, .unset, .unset, .unset, .unset, .unset, .unset, .unset, .unset, .unset, .unset, .unset, .unset] [(.long (own_minL (own_minL xv yv) zv))]))
  refine g_lstore X213 hx (hb hby at_33) (L' := #[.val (.int a), .val (.int b), .val (.int c0), .val (.int t), .val (.int n), .val (.long xv), .second, .val (.long yv), .second, .val (.long zv), .second, .val (.long (own_minL (own_minL xv yv) zv)), .second, .unset, .unset, .unset, .unset, .unset, .unset, .unset, .unset, .unset, .unset]) rfl (q := 35) rfl ?_
  refine g_lload X213 hx (hb hby at_35) (v := xv) rfl (q := 37) rfl ?_
  refine g_lload X213 hx (hb hby at_37) (v := yv) rfl (q := 39) rfl ?_
  refine g_callS X213 hx hZ hown (hw _ (List.mem_of_getElem? (i := 5) rfl)) (hw _ (List.mem_of_getElem? (i := 6) rfl)) (hw _ (List.mem_of_getElem? (i := 3) rfl)) (hw _ (List.mem_of_getElem? (i := 7) rfl)) (by decide) e213 (rmMaxL l Z a0 hw xv yv h0) (by exact hml.symm) (argsL := [(.long xv), (.long yv)]) (rest := []) rfl rfl pd_2 rfl (Nat.le_of_ble_eq_true rfl) (Nat.le_of_ble_eq_true rfl) (Nat.le_of_ble_eq_true rfl) (Nat.le_of_ble_eq_true rfl) (hb hby at_39) (q := 42) rfl (g_pure rfl rfl fun T214 X214 e214 => ?_)
  show Go p e below _ (T214.setTop (mkF m 42 #[.val (.int a), .val (.int b), .val (.int c0), .val (.int t), .val (.int n), .val (.long xv), .second, .val (.long yv), .second, .val (.long zv), .second, .val (.long (own_minL (own_minL xv yv) zv)), .second, .unset, .unset, .unset, .unset, .unset, .unset, .unset, .unset, .unset, .unset] [(.long (own_maxL xv yv))]))
  refine g_lload X214 hx (hb hby at_42) (v := zv) rfl (q := 44) rfl ?_
  refine g_callS X214 hx hZ hown (hw _ (List.mem_of_getElem? (i := 5) rfl)) (hw _ (List.mem_of_getElem? (i := 6) rfl)) (hw _ (List.mem_of_getElem? (i := 3) rfl)) (hw _ (List.mem_of_getElem? (i := 7) rfl)) (by decide) e214 (rmMaxL l Z a0 hw (own_maxL xv yv) zv h0) (by exact hml.symm) (argsL := [(.long (own_maxL xv yv)), (.long zv)]) (rest := []) rfl rfl pd_2 rfl (Nat.le_of_ble_eq_true rfl) (Nat.le_of_ble_eq_true rfl) (Nat.le_of_ble_eq_true rfl) (Nat.le_of_ble_eq_true rfl) (hb hby at_44) (q := 47) rfl (g_pure rfl rfl fun T215 X215 e215 => ?_)
  show Go p e below _ (T215.setTop (mkF m 47 #[.val (.int a), .val (.int b), .val (.int c0), .val (.int t), .val (.int n), .val (.long xv), .second, .val (.long yv), .second, .val (.long zv), .second, .val (.long (own_minL (own_minL xv yv) zv)), .second, .unset, .unset, .unset, .unset, .unset, .unset, .unset, .unset, .unset, .unset] [(.long (own_maxL (own_maxL xv yv) zv))]))
  refine g_lstore X215 hx (hb hby at_47) (L' := #[.val (.int a), .val (.int b), .val (.int c0), .val (.int t), .val (.int n), .val (.long xv), .second, .val (.long yv), .second, .val (.long zv), .second, .val (.long (own_minL (own_minL xv yv) zv)), .second, .val (.long (own_maxL (own_maxL xv yv) zv)), .second, .unset, .unset, .unset, .unset, .unset, .unset, .unset, .unset]) rfl (q := 49) rfl ?_
  refine g_lload X215 hx (hb hby at_49) (v := xv) rfl (q := 51) rfl ?_
  refine g_lload X215 hx (hb hby at_51) (v := yv) rfl (q := 53) rfl ?_
  refine g_ladd X215 hx (hb hby at_53) (z := (xv + yv)) rfl (q := 54) rfl ?_
  refine g_lload X215 hx (hb hby at_54) (v := zv) rfl (q := 56) rfl ?_
  refine g_ladd X215 hx (hb hby at_56) (z := ((xv + yv) + zv)) rfl (q := 57) rfl ?_
  refine g_lload X215 hx (hb hby at_57) (v := (own_minL (own_minL xv yv) zv)) rfl (q := 59) rfl ?_
  refine g_lsub X215 hx (hb hby at_59) (z := (((xv + yv) + zv) - (own_minL (own_minL xv yv) zv))) rfl (q := 60) rfl ?_
  refine g_lload X215 hx (hb hby at_60) (v := (own_maxL (own_maxL xv yv) zv)) rfl (q := 62) rfl ?_
  refine g_lsub X215 hx (hb hby at_62) (z := ((((xv + yv) + zv) - (own_minL (own_minL xv yv) zv)) - (own_maxL (own_maxL xv yv) zv))) rfl (q := 63) rfl ?_
  refine g_lstore X215 hx (hb hby at_63) (L' := #[.val (.int a), .val (.int b), .val (.int c0), .val (.int t), .val (.int n), .val (.long xv), .second, .val (.long yv), .second, .val (.long zv), .second, .val (.long (own_minL (own_minL xv yv) zv)), .second, .val (.long (own_maxL (own_maxL xv yv) zv)), .second, .val (.long ((((xv + yv) + zv) - (own_minL (own_minL xv yv) zv)) - (own_maxL (own_maxL xv yv) zv))), .second, .unset, .unset, .unset, .unset, .unset, .unset]) rfl (q := 65) rfl ?_
  refine g_lload X215 hx (hb hby at_65) (v := (own_minL (own_minL xv yv) zv)) rfl (q := 67) rfl ?_
  refine g_l2i X215 hx (hb hby at_67) (z := p0) hp0 (q := 68) rfl ?_
  refine g_istore X215 hx (hb hby at_68) (L' := #[.val (.int a), .val (.int b), .val (.int c0), .val (.int t), .val (.int n), .val (.long xv), .second, .val (.long yv), .second, .val (.long zv), .second, .val (.long (own_minL (own_minL xv yv) zv)), .second, .val (.long (own_maxL (own_maxL xv yv) zv)), .second, .val (.long ((((xv + yv) + zv) - (own_minL (own_minL xv yv) zv)) - (own_maxL (own_maxL xv yv) zv))), .second, .val (.int p0), .unset, .unset, .unset, .unset, .unset]) rfl (q := 70) rfl ?_
  refine g_lload X215 hx (hb hby at_70) (v := ((((xv + yv) + zv) - (own_minL (own_minL xv yv) zv)) - (own_maxL (own_maxL xv yv) zv))) rfl (q := 72) rfl ?_
  refine g_l2i X215 hx (hb hby at_72) (z := p1) hp1 (q := 73) rfl ?_
  refine g_istore X215 hx (hb hby at_73) (L' := #[.val (.int a), .val (.int b), .val (.int c0), .val (.int t), .val (.int n), .val (.long xv), .second, .val (.long yv), .second, .val (.long zv), .second, .val (.long (own_minL (own_minL xv yv) zv)), .second, .val (.long (own_maxL (own_maxL xv yv) zv)), .second, .val (.long ((((xv + yv) + zv) - (own_minL (own_minL xv yv) zv)) - (own_maxL (own_maxL xv yv) zv))), .second, .val (.int p0), .val (.int p1), .unset, .unset, .unset, .unset]) rfl (q := 75) rfl ?_
  refine g_lload X215 hx (hb hby at_75) (v := (own_maxL (own_maxL xv yv) zv)) rfl (q := 77) rfl ?_
  refine g_l2i X215 hx (hb hby at_77) (z := p2) hp2 (q := 78) rfl ?_
  refine g_istore X215 hx (hb hby at_78) (L' := #[.val (.int a), .val (.int b), .val (.int c0), .val (.int t), .val (.int n), .val (.long xv), .second, .val (.long yv), .second, .val (.long zv), .second, .val (.long (own_minL (own_minL xv yv) zv)), .second, .val (.long (own_maxL (own_maxL xv yv) zv)), .second, .val (.long ((((xv + yv) + zv) - (own_minL (own_minL xv yv) zv)) - (own_maxL (own_maxL xv yv) zv))), .second, .val (.int p0), .val (.int p1), .val (.int p2), .unset, .unset, .unset]) rfl (q := 80) rfl ?_
  refine g_iload X215 hx (hb hby at_80) (v := n) rfl (q := 82) rfl ?_
  refine g_iconst X215 hx (hb hby at_82) (n := (3 : Int32)) (by decide) (q := 83) rfl ?_
  refine g_iand X215 hx (hb hby at_83) (z := (1 : Int32)) hk (q := 84) rfl ?_
  refine g_istore X215 hx (hb hby at_84) (L' := #[.val (.int a), .val (.int b), .val (.int c0), .val (.int t), .val (.int n), .val (.long xv), .second, .val (.long yv), .second, .val (.long zv), .second, .val (.long (own_minL (own_minL xv yv) zv)), .second, .val (.long (own_maxL (own_maxL xv yv) zv)), .second, .val (.long ((((xv + yv) + zv) - (own_minL (own_minL xv yv) zv)) - (own_maxL (own_maxL xv yv) zv))), .second, .val (.int p0), .val (.int p1), .val (.int p2), .val (.int (1 : Int32)), .unset, .unset]) rfl (q := 86) rfl ?_
  refine g_new X215 hx hZ hown (hw _ (List.mem_of_getElem? (i := 8) rfl)) (hw _ (List.mem_of_getElem? (i := 9) rfl)) (hw _ (List.mem_of_getElem? (i := 10) rfl)) e215 (hb hby at_86) (Nat.le_of_ble_eq_true rfl) (Nat.le_of_ble_eq_true rfl) (q := 89) rfl fun T216 h216 bi g216 X216 e216 E216 A216 D216 => ?_
  have ge_bi : n0 ≤ bi := Nat.le_trans Z0 (Nat.le_of_eq g216.symm)
  have z_216 := Nat.le_trans Z0 E216.1
  have F216_entries : Fld Z h216 bi "com/example/newlyn/newlyn/storage/SegmentIndex" "entries" "[J" .null := D216 (Or.inl (hw _ (List.mem_of_getElem? (i := 19) rfl))) (ty := (.array .long)) (by decide)
  have F216_count : Fld Z h216 bi "com/example/newlyn/newlyn/storage/SegmentIndex" "count" "I" (.int (0 : Int32)) := D216 (Or.inl (hw _ (List.mem_of_getElem? (i := 26) rfl))) (ty := .int) (by decide)
  refine g_dup X216 hx (hb hby at_89) rfl (q := 90) rfl ?_
  refine g_callI X216 hx hZ hown rfl (hw _ (List.mem_of_getElem? (i := 11) rfl)) (hw _ (List.mem_of_getElem? (i := 12) rfl)) (hw _ (List.mem_of_getElem? (i := 13) rfl)) (hw _ (List.mem_of_getElem? (i := 10) rfl)) (by decide) e216 (b := bi) (rmC l Z a0 hw bi h216 n0 z_216 ge_bi A216 F216_entries F216_count) (by exact hml.symm) (argsL := []) (rest := [(.ref bi)]) rfl rfl pd_3 rfl (Nat.le_of_ble_eq_true rfl) (Nat.le_of_ble_eq_true rfl) (Nat.le_of_ble_eq_true rfl) (Nat.le_of_ble_eq_true rfl) (hb hby at_90) (q := 93) rfl (fun v217 T217 L217 X217 hQ217 => ?_)
  generalize e217 : T217.heap = h217 at hQ217
  obtain ⟨rfl, M217, K217, A217, ae, g217, B217, C217, V217⟩ := hQ217
  have N217 := Fr.app (Fr.nil n0) M217
  have ne_bi_ae : bi ≠ ae := Nat.ne_of_lt (Nat.lt_of_lt_of_le A216.lt g217)
  have ge_ae : n0 ≤ ae := Nat.le_trans z_216 g217
  have Z217 : n0 ≤ h217.size := Nat.le_trans z_216 K217.1
  show Go p e below _ (T217.setTop (mkF m 93 #[.val (.int a), .val (.int b), .val (.int c0), .val (.int t), .val (.int n), .val (.long xv), .second, .val (.long yv), .second, .val (.long zv), .second, .val (.long (own_minL (own_minL xv yv) zv)), .second, .val (.long (own_maxL (own_maxL xv yv) zv)), .second, .val (.long ((((xv + yv) + zv) - (own_minL (own_minL xv yv) zv)) - (own_maxL (own_maxL xv yv) zv))), .second, .val (.int p0), .val (.int p1), .val (.int p2), .val (.int (1 : Int32)), .unset, .unset] [(.ref bi)]))
  refine g_astore X217 hx (hb hby at_93) rfl (L' := #[.val (.int a), .val (.int b), .val (.int c0), .val (.int t), .val (.int n), .val (.long xv), .second, .val (.long yv), .second, .val (.long zv), .second, .val (.long (own_minL (own_minL xv yv) zv)), .second, .val (.long (own_maxL (own_maxL xv yv) zv)), .second, .val (.long ((((xv + yv) + zv) - (own_minL (own_minL xv yv) zv)) - (own_maxL (own_maxL xv yv) zv))), .second, .val (.int p0), .val (.int p1), .val (.int p2), .val (.int (1 : Int32)), .val (.ref bi), .unset]) rfl (q := 95) rfl ?_
  refine g_iload X217 hx (hb hby at_95) (v := (1 : Int32)) rfl (q := 97) rfl ?_
  refine g_if_le X217 hx (hb hby at_97) (by decide) (q := 109) (by decide) (q2 := 100) rfl (fun hb97 => absurd hb97 (by decide)) (fun hb97 => ?_)
  refine g_aload X217 hx (hb hby at_100) (v := (.ref bi)) rfl rfl (q := 102) rfl ?_
  refine g_iconst X217 hx (hb hby at_102) (n := (0 : Int32)) (by decide) (q := 103) rfl ?_
  refine g_iload X217 hx (hb hby at_103) (v := p0) rfl (q := 105) rfl ?_
  refine g_lconst X217 hx (hb hby at_105) (n := (0 : Int64)) (by decide) (q := 106) rfl ?_
  refine g_callV X217 hx hZ hown (hw _ (List.mem_of_getElem? (i := 48) rfl)) (hw _ (List.mem_of_getElem? (i := 49) rfl)) (hw _ (List.mem_of_getElem? (i := 51) rfl)) (hw _ (List.mem_of_getElem? (i := 50) rfl)) (hw _ (List.mem_of_getElem? (i := 52) rfl)) (hw _ (List.mem_of_getElem? (i := 10) rfl)) (notFace_of_selects (args := #[]) (mvT hZ (hw _ (List.mem_of_getElem? (i := 51) rfl)))) (by decide) e217 A217 (rmA l Z a0 hw bi ae (0 : Int32) p0 (0 : Int64) (0 : Int32) (1 : Int32) (2 : Int32) (0 : Int32) (1 : Int32) (by decide) (by decide) (by decide) (by decide) (by decide) (fun _ => .long (0 : Int64)) h217 n0 (by decide) (by decide) (by decide) (by decide) ge_bi ge_ae ne_bi_ae A217 B217 C217 V217) (by exact hml.symm) (argsL := [(.int (0 : Int32)), (.int p0), (.long (0 : Int64))]) (rest := []) rfl rfl pd_7 rfl (Nat.le_of_ble_eq_true rfl) (Nat.le_of_ble_eq_true rfl) (Nat.le_of_ble_eq_true rfl) (Nat.le_of_ble_eq_true rfl) (hb hby at_106) (q := 109) rfl (fun v218 T218 L218 X218 hQ218 => ?_)
  generalize e218 : T218.heap = h218 at hQ218
  obtain ⟨rfl, M218, K218, A218, B218, C218, V218⟩ := hQ218
  have N218 := Fr.app N217 M218
  have Z218 : n0 ≤ h218.size := Nat.le_trans Z217 K218.1
  show Go p e below _ (T218.setTop (mkF m 109 #[.val (.int a), .val (.int b), .val (.int c0), .val (.int t), .val (.int n), .val (.long xv), .second, .val (.long yv), .second, .val (.long zv), .second, .val (.long (own_minL (own_minL xv yv) zv)), .second, .val (.long (own_maxL (own_maxL xv yv) zv)), .second, .val (.long ((((xv + yv) + zv) - (own_minL (own_minL xv yv) zv)) - (own_maxL (own_maxL xv yv) zv))), .second, .val (.int p0), .val (.int p1), .val (.int p2), .val (.int (1 : Int32)), .val (.ref bi), .unset] []))
  refine g_iload X218 hx (hb hby at_109) (v := (1 : Int32)) rfl (q := 111) rfl ?_
  refine g_iconst X218 hx (hb hby at_111) (n := (1 : Int32)) (by decide) (q := 112) rfl ?_
  refine g_icmp_le X218 hx (hb hby at_112) (by decide) (q := 124) (by decide) (q2 := 115) rfl (fun hb112 => ?_) (fun hb112 => absurd hb112 (by decide))
  refine g_iload X218 hx (hb hby at_124) (v := (1 : Int32)) rfl (q := 126) rfl ?_
  refine g_iconst X218 hx (hb hby at_126) (n := (2 : Int32)) (by decide) (q := 127) rfl ?_
  refine g_icmp_le X218 hx (hb hby at_127) (by decide) (q := 141) (by decide) (q2 := 130) rfl (fun hb127 => ?_) (fun hb127 => absurd hb127 (by decide))
  refine g_aload X218 hx (hb hby at_141) (v := (.ref bi)) rfl rfl (q := 143) rfl ?_
  refine g_iloadN X218 hx (hb hby at_143) (v := t) rfl (q := 144) rfl ?_
  have q0 : ((fun i => if i = (1 : Int32).toNatClampNeg then .long (0 : Int64) else if i = (0 : Int32).toNatClampNeg then .long (own_entry (0 : Int32) p0) else (fun _ => .long (0 : Int64)) i) : Nat → Value) (0 : Int32).toNatClampNeg = .long (own_entry (0 : Int32) p0) := by rfl
  have r0 := own_entry_pos (0 : Int32) p0 (by decide) g0
  have o0 : own_off (own_entry (0 : Int32) p0) = (0 : Int64) := (own_entry_off (0 : Int32) p0 (by decide) g0).trans (by decide)
  refine g_callV X218 hx hZ hown (hw _ (List.mem_of_getElem? (i := 20) rfl)) (hw _ (List.mem_of_getElem? (i := 21) rfl)) (hw _ (List.mem_of_getElem? (i := 23) rfl)) (hw _ (List.mem_of_getElem? (i := 22) rfl)) (hw _ (List.mem_of_getElem? (i := 24) rfl)) (hw _ (List.mem_of_getElem? (i := 10) rfl)) (notFace_of_selects (args := #[]) (mvT hZ (hw _ (List.mem_of_getElem? (i := 23) rfl)))) (by decide) e218 A218 (rmT1 l Z a0 hw bi ae t p0 (own_entry (0 : Int32) p0) (fun i => if i = (1 : Int32).toNatClampNeg then .long (0 : Int64) else if i = (0 : Int32).toNatClampNeg then .long (own_entry (0 : Int32) p0) else (fun _ => .long (0 : Int64)) i) h218 n0 ge_bi ne_bi_ae A218 B218 C218 V218 q0 r0) (by exact hml.symm) (argsL := [(.int t)]) (rest := []) rfl rfl pd_4 rfl (Nat.le_of_ble_eq_true rfl) (Nat.le_of_ble_eq_true rfl) (Nat.le_of_ble_eq_true rfl) (Nat.le_of_ble_eq_true rfl) (hb hby at_144) (q := 147) rfl (fun v219 T219 L219 X219 hQ219 => ?_)
  generalize e219 : T219.heap = h219 at hQ219
  obtain ⟨rfl, M219, K219, A219, B219, C219⟩ := hQ219
  have N219 := Fr.app N218 M219
  have Z219 : n0 ≤ h219.size := Nat.le_trans Z218 K219.1
  have V219 := V218.keep K219 (ninS (Ne.symm ne_bi_ae) nin0)
  rw [show own_tr1 t p0 = (0 : Int32) from by rw [own_tr1, if_neg lt0]] at C219
  show Go p e below _ (T219.setTop (mkF m 147 #[.val (.int a), .val (.int b), .val (.int c0), .val (.int t), .val (.int n), .val (.long xv), .second, .val (.long yv), .second, .val (.long zv), .second, .val (.long (own_minL (own_minL xv yv) zv)), .second, .val (.long (own_maxL (own_maxL xv yv) zv)), .second, .val (.long ((((xv + yv) + zv) - (own_minL (own_minL xv yv) zv)) - (own_maxL (own_maxL xv yv) zv))), .second, .val (.int p0), .val (.int p1), .val (.int p2), .val (.int (1 : Int32)), .val (.ref bi), .unset] []))
  refine g_iconst X219 hx (hb hby at_147) (n := (0 : Int32)) (by decide) (q := 148) rfl ?_
  refine g_istore X219 hx (hb hby at_148) (L' := #[.val (.int a), .val (.int b), .val (.int c0), .val (.int t), .val (.int n), .val (.long xv), .second, .val (.long yv), .second, .val (.long zv), .second, .val (.long (own_minL (own_minL xv yv) zv)), .second, .val (.long (own_maxL (own_maxL xv yv) zv)), .second, .val (.long ((((xv + yv) + zv) - (own_minL (own_minL xv yv) zv)) - (own_maxL (own_maxL xv yv) zv))), .second, .val (.int p0), .val (.int p1), .val (.int p2), .val (.int (1 : Int32)), .val (.ref bi), .val (.int (0 : Int32))]) rfl (q := 150) rfl ?_
  refine g_iload X219 hx (hb hby at_150) (v := (1 : Int32)) rfl (q := 152) rfl ?_
  refine g_if_le X219 hx (hb hby at_152) (by decide) (q := 164) (by decide) (q2 := 155) rfl (fun hb152 => absurd hb152 (by decide)) (fun hb152 => ?_)
  refine g_iload X219 hx (hb hby at_155) (v := p0) rfl (q := 157) rfl ?_
  refine g_iloadN X219 hx (hb hby at_157) (v := t) rfl (q := 158) rfl ?_
  refine g_icmp_ge X219 hx (hb hby at_158) (by decide) (q := 164) (by decide) (q2 := 161) rfl (fun hb158 => ?_) (fun hb158 => absurd hb158 lt0)
  refine g_iload X219 hx (hb hby at_164) (v := (0 : Int32)) rfl (q := 166) rfl ?_
  refine g_iconst X219 hx (hb hby at_166) (n := (1 : Int32)) (by decide) (q := 167) rfl ?_
  refine g_icmp_ne X219 hx (hb hby at_167) (by decide) (q := 185) (by decide) (q2 := 170) rfl (fun hb167 => ?_) (fun hb167 => absurd hb167 (by decide))
  refine g_iload X219 hx (hb hby at_185) (v := (0 : Int32)) rfl (q := 187) rfl ?_
  refine g_iconst X219 hx (hb hby at_187) (n := (2 : Int32)) (by decide) (q := 188) rfl ?_
  refine g_icmp_ne X219 hx (hb hby at_188) (by decide) (q := 206) (by decide) (q2 := 191) rfl (fun hb188 => ?_) (fun hb188 => absurd hb188 (by decide))
  refine g_aload X219 hx (hb hby at_206) (v := (.ref bi)) rfl rfl (q := 208) rfl ?_
  refine g_lconst X219 hx (hb hby at_208) (n := (0 : Int64)) (by decide) (q := 209) rfl ?_
  refine g_callVH X219 hx hH hown (hw _ (List.mem_of_getElem? (i := 27) rfl)) (hw _ (List.mem_of_getElem? (i := 28) rfl)) (hw _ (List.mem_of_getElem? (i := 30) rfl)) (hw _ (List.mem_of_getElem? (i := 29) rfl)) (hw _ (List.mem_of_getElem? (i := 31) rfl)) (hw _ (List.mem_of_getElem? (i := 10) rfl)) (notFace_of_selects (args := #[]) (mvT hZ (hw _ (List.mem_of_getElem? (i := 30) rfl)))) (by decide) e219 A219 (rmF00 l Z a0 hw bi ae (fun i => if i = (1 : Int32).toNatClampNeg then .long (0 : Int64) else if i = (0 : Int32).toNatClampNeg then .long (own_entry (0 : Int32) p0) else (fun _ => .long (0 : Int64)) i) h219 A219 B219 C219 V219) (by exact hml.symm) (argsL := [(.long (0 : Int64))]) (rest := []) rfl rfl pd_5 rfl (Nat.le_of_ble_eq_true rfl) (Nat.le_of_ble_eq_true rfl) (Nat.le_of_ble_eq_true rfl) (Nat.le_of_ble_eq_true rfl) (hb hby at_209) (q := 212) rfl (fun v220 T220 L220 X220 hQ220 => ?_)
  generalize e220 : T220.heap = h220 at hQ220
  obtain ⟨rfl, rfl, E220⟩ := hQ220
  have z_220 := Nat.le_trans Z219 E220.1
  have f221 := (A219.ext E220)
  have f222 := (B219.ext E220)
  have f223 := (C219.ext E220)
  have f224 := (V219.ext E220)
  have N220 := Fr.app N219 (Fr.nil n0)
  show Go p e below _ (T220.setTop (mkF m 212 #[.val (.int a), .val (.int b), .val (.int c0), .val (.int t), .val (.int n), .val (.long xv), .second, .val (.long yv), .second, .val (.long zv), .second, .val (.long (own_minL (own_minL xv yv) zv)), .second, .val (.long (own_maxL (own_maxL xv yv) zv)), .second, .val (.long ((((xv + yv) + zv) - (own_minL (own_minL xv yv) zv)) - (own_maxL (own_maxL xv yv) zv))), .second, .val (.int p0), .val (.int p1), .val (.int p2), .val (.int (1 : Int32)), .val (.ref bi), .val (.int (0 : Int32))] [(.int (0 : Int32))]))
  refine g_iconst X220 hx (hb hby at_212) (n := (0 : Int32)) (by decide) (q := 213) rfl ?_
  refine g_iload X220 hx (hb hby at_213) (v := (0 : Int32)) rfl (q := 215) rfl ?_
  refine g_iload X220 hx (hb hby at_215) (v := p0) rfl (q := 217) rfl ?_
  refine g_iload X220 hx (hb hby at_217) (v := p1) rfl (q := 219) rfl ?_
  refine g_iload X220 hx (hb hby at_219) (v := p2) rfl (q := 221) rfl ?_
  refine g_callS X220 hx hZ hown (hw _ (List.mem_of_getElem? (i := 40) rfl)) (hw _ (List.mem_of_getElem? (i := 41) rfl)) (hw _ (List.mem_of_getElem? (i := 42) rfl)) (hw _ (List.mem_of_getElem? (i := 43) rfl)) (by decide) e220 (rmX l Z a0 hw (0 : Int32) (0 : Int32) p0 p1 p2 (0 : Int32) (own_exp_00 p0 p1 p2) h220) (by exact hml.symm) (argsL := [(.int (0 : Int32)), (.int (0 : Int32)), (.int p0), (.int p1), (.int p2)]) (rest := [(.int (0 : Int32))]) rfl rfl pd_6 rfl (Nat.le_of_ble_eq_true rfl) (Nat.le_of_ble_eq_true rfl) (Nat.le_of_ble_eq_true rfl) (Nat.le_of_ble_eq_true rfl) (hb hby at_221) (q := 224) rfl (g_pure rfl rfl fun T225 X225 e225 => ?_)
  show Go p e below _ (T225.setTop (mkF m 224 #[.val (.int a), .val (.int b), .val (.int c0), .val (.int t), .val (.int n), .val (.long xv), .second, .val (.long yv), .second, .val (.long zv), .second, .val (.long (own_minL (own_minL xv yv) zv)), .second, .val (.long (own_maxL (own_maxL xv yv) zv)), .second, .val (.long ((((xv + yv) + zv) - (own_minL (own_minL xv yv) zv)) - (own_maxL (own_maxL xv yv) zv))), .second, .val (.int p0), .val (.int p1), .val (.int p2), .val (.int (1 : Int32)), .val (.ref bi), .val (.int (0 : Int32))] [(.int (0 : Int32)), (.int (0 : Int32))]))
  refine g_icmp_ne X225 hx (hb hby at_224) (by decide) (q := 275) (by decide) (q2 := 227) rfl (fun hb224 => absurd hb224 (not_not_intro rfl)) (fun hb224 => ?_)
  refine g_aload X225 hx (hb hby at_227) (v := (.ref bi)) rfl rfl (q := 229) rfl ?_
  refine g_lconst X225 hx (hb hby at_229) (n := (1 : Int64)) (by decide) (q := 230) rfl ?_
  refine g_callVH X225 hx hH hown (hw _ (List.mem_of_getElem? (i := 27) rfl)) (hw _ (List.mem_of_getElem? (i := 28) rfl)) (hw _ (List.mem_of_getElem? (i := 30) rfl)) (hw _ (List.mem_of_getElem? (i := 29) rfl)) (hw _ (List.mem_of_getElem? (i := 31) rfl)) (hw _ (List.mem_of_getElem? (i := 10) rfl)) (notFace_of_selects (args := #[]) (mvT hZ (hw _ (List.mem_of_getElem? (i := 30) rfl)))) (by decide) e225 f221 (rmF01 l Z a0 hw bi ae (fun i => if i = (1 : Int32).toNatClampNeg then .long (0 : Int64) else if i = (0 : Int32).toNatClampNeg then .long (own_entry (0 : Int32) p0) else (fun _ => .long (0 : Int64)) i) h220 f221 f222 f223 f224) (by exact hml.symm) (argsL := [(.long (1 : Int64))]) (rest := []) rfl rfl pd_5 rfl (Nat.le_of_ble_eq_true rfl) (Nat.le_of_ble_eq_true rfl) (Nat.le_of_ble_eq_true rfl) (Nat.le_of_ble_eq_true rfl) (hb hby at_230) (q := 233) rfl (fun v226 T226 L226 X226 hQ226 => ?_)
  generalize e226 : T226.heap = h226 at hQ226
  obtain ⟨rfl, rfl, E226⟩ := hQ226
  have z_226 := Nat.le_trans z_220 E226.1
  have f227 := (f221.ext E226)
  have f228 := (f222.ext E226)
  have f229 := (f223.ext E226)
  have f230 := (f224.ext E226)
  have N226 := Fr.app N220 (Fr.nil n0)
  show Go p e below _ (T226.setTop (mkF m 233 #[.val (.int a), .val (.int b), .val (.int c0), .val (.int t), .val (.int n), .val (.long xv), .second, .val (.long yv), .second, .val (.long zv), .second, .val (.long (own_minL (own_minL xv yv) zv)), .second, .val (.long (own_maxL (own_maxL xv yv) zv)), .second, .val (.long ((((xv + yv) + zv) - (own_minL (own_minL xv yv) zv)) - (own_maxL (own_maxL xv yv) zv))), .second, .val (.int p0), .val (.int p1), .val (.int p2), .val (.int (1 : Int32)), .val (.ref bi), .val (.int (0 : Int32))] [(.int (0 : Int32))]))
  refine g_iconst X226 hx (hb hby at_233) (n := (1 : Int32)) (by decide) (q := 234) rfl ?_
  refine g_iload X226 hx (hb hby at_234) (v := (0 : Int32)) rfl (q := 236) rfl ?_
  refine g_iload X226 hx (hb hby at_236) (v := p0) rfl (q := 238) rfl ?_
  refine g_iload X226 hx (hb hby at_238) (v := p1) rfl (q := 240) rfl ?_
  refine g_iload X226 hx (hb hby at_240) (v := p2) rfl (q := 242) rfl ?_
  refine g_callS X226 hx hZ hown (hw _ (List.mem_of_getElem? (i := 40) rfl)) (hw _ (List.mem_of_getElem? (i := 41) rfl)) (hw _ (List.mem_of_getElem? (i := 42) rfl)) (hw _ (List.mem_of_getElem? (i := 43) rfl)) (by decide) e226 (rmX l Z a0 hw (1 : Int32) (0 : Int32) p0 p1 p2 (0 : Int32) (own_exp_10 p0 p1 p2) h226) (by exact hml.symm) (argsL := [(.int (1 : Int32)), (.int (0 : Int32)), (.int p0), (.int p1), (.int p2)]) (rest := [(.int (0 : Int32))]) rfl rfl pd_6 rfl (Nat.le_of_ble_eq_true rfl) (Nat.le_of_ble_eq_true rfl) (Nat.le_of_ble_eq_true rfl) (Nat.le_of_ble_eq_true rfl) (hb hby at_242) (q := 245) rfl (g_pure rfl rfl fun T231 X231 e231 => ?_)
  show Go p e below _ (T231.setTop (mkF m 245 #[.val (.int a), .val (.int b), .val (.int c0), .val (.int t), .val (.int n), .val (.long xv), .second, .val (.long yv), .second, .val (.long zv), .second, .val (.long (own_minL (own_minL xv yv) zv)), .second, .val (.long (own_maxL (own_maxL xv yv) zv)), .second, .val (.long ((((xv + yv) + zv) - (own_minL (own_minL xv yv) zv)) - (own_maxL (own_maxL xv yv) zv))), .second, .val (.int p0), .val (.int p1), .val (.int p2), .val (.int (1 : Int32)), .val (.ref bi), .val (.int (0 : Int32))] [(.int (0 : Int32)), (.int (0 : Int32))]))
  refine g_icmp_ne X231 hx (hb hby at_245) (by decide) (q := 275) (by decide) (q2 := 248) rfl (fun hb245 => absurd hb245 (not_not_intro rfl)) (fun hb245 => ?_)
  refine g_aload X231 hx (hb hby at_248) (v := (.ref bi)) rfl rfl (q := 250) rfl ?_
  refine g_ldcJ X231 hx hZ hown (hw _ (List.mem_of_getElem? (i := 47) rfl)) (hb hby at_250) (q := 253) rfl ?_
  refine g_callVH X231 hx hH hown (hw _ (List.mem_of_getElem? (i := 27) rfl)) (hw _ (List.mem_of_getElem? (i := 28) rfl)) (hw _ (List.mem_of_getElem? (i := 30) rfl)) (hw _ (List.mem_of_getElem? (i := 29) rfl)) (hw _ (List.mem_of_getElem? (i := 31) rfl)) (hw _ (List.mem_of_getElem? (i := 10) rfl)) (notFace_of_selects (args := #[]) (mvT hZ (hw _ (List.mem_of_getElem? (i := 30) rfl)))) (by decide) e231 f227 (rmF02 l Z a0 hw bi ae (fun i => if i = (1 : Int32).toNatClampNeg then .long (0 : Int64) else if i = (0 : Int32).toNatClampNeg then .long (own_entry (0 : Int32) p0) else (fun _ => .long (0 : Int64)) i) h226 f227 f228 f229 f230) (by exact hml.symm) (argsL := [(.long (2 : Int64))]) (rest := []) rfl rfl pd_5 rfl (Nat.le_of_ble_eq_true rfl) (Nat.le_of_ble_eq_true rfl) (Nat.le_of_ble_eq_true rfl) (Nat.le_of_ble_eq_true rfl) (hb hby at_253) (q := 256) rfl (fun v232 T232 L232 X232 hQ232 => ?_)
  generalize e232 : T232.heap = h232 at hQ232
  obtain ⟨rfl, rfl, E232⟩ := hQ232
  have z_232 := Nat.le_trans z_226 E232.1
  have f233 := (f227.ext E232)
  have f234 := (f228.ext E232)
  have f235 := (f229.ext E232)
  have f236 := (f230.ext E232)
  have N232 := Fr.app N226 (Fr.nil n0)
  show Go p e below _ (T232.setTop (mkF m 256 #[.val (.int a), .val (.int b), .val (.int c0), .val (.int t), .val (.int n), .val (.long xv), .second, .val (.long yv), .second, .val (.long zv), .second, .val (.long (own_minL (own_minL xv yv) zv)), .second, .val (.long (own_maxL (own_maxL xv yv) zv)), .second, .val (.long ((((xv + yv) + zv) - (own_minL (own_minL xv yv) zv)) - (own_maxL (own_maxL xv yv) zv))), .second, .val (.int p0), .val (.int p1), .val (.int p2), .val (.int (1 : Int32)), .val (.ref bi), .val (.int (0 : Int32))] [(.int (0 : Int32))]))
  refine g_iconst X232 hx (hb hby at_256) (n := (2 : Int32)) (by decide) (q := 257) rfl ?_
  refine g_iload X232 hx (hb hby at_257) (v := (0 : Int32)) rfl (q := 259) rfl ?_
  refine g_iload X232 hx (hb hby at_259) (v := p0) rfl (q := 261) rfl ?_
  refine g_iload X232 hx (hb hby at_261) (v := p1) rfl (q := 263) rfl ?_
  refine g_iload X232 hx (hb hby at_263) (v := p2) rfl (q := 265) rfl ?_
  refine g_callS X232 hx hZ hown (hw _ (List.mem_of_getElem? (i := 40) rfl)) (hw _ (List.mem_of_getElem? (i := 41) rfl)) (hw _ (List.mem_of_getElem? (i := 42) rfl)) (hw _ (List.mem_of_getElem? (i := 43) rfl)) (by decide) e232 (rmX l Z a0 hw (2 : Int32) (0 : Int32) p0 p1 p2 (0 : Int32) (own_exp_20 p0 p1 p2) h232) (by exact hml.symm) (argsL := [(.int (2 : Int32)), (.int (0 : Int32)), (.int p0), (.int p1), (.int p2)]) (rest := [(.int (0 : Int32))]) rfl rfl pd_6 rfl (Nat.le_of_ble_eq_true rfl) (Nat.le_of_ble_eq_true rfl) (Nat.le_of_ble_eq_true rfl) (Nat.le_of_ble_eq_true rfl) (hb hby at_265) (q := 268) rfl (g_pure rfl rfl fun T237 X237 e237 => ?_)
  show Go p e below _ (T237.setTop (mkF m 268 #[.val (.int a), .val (.int b), .val (.int c0), .val (.int t), .val (.int n), .val (.long xv), .second, .val (.long yv), .second, .val (.long zv), .second, .val (.long (own_minL (own_minL xv yv) zv)), .second, .val (.long (own_maxL (own_maxL xv yv) zv)), .second, .val (.long ((((xv + yv) + zv) - (own_minL (own_minL xv yv) zv)) - (own_maxL (own_maxL xv yv) zv))), .second, .val (.int p0), .val (.int p1), .val (.int p2), .val (.int (1 : Int32)), .val (.ref bi), .val (.int (0 : Int32))] [(.int (0 : Int32)), (.int (0 : Int32))]))
  refine g_icmp_ne X237 hx (hb hby at_268) (by decide) (q := 275) (by decide) (q2 := 271) rfl (fun hb268 => absurd hb268 (not_not_intro rfl)) (fun hb268 => ?_)
  refine g_iconst X237 hx (hb hby at_271) (n := (1 : Int32)) (by decide) (q := 272) rfl ?_
  refine g_goto X237 hx (hb hby at_272) (by decide) (q := 276) (by decide) ?_
  exact g_retB X237 hx hret hlk (hb hby at_276) (by decide) ⟨rfl, by simpa using N232⟩ (Nat.le_of_ble_eq_true rfl) (Nat.le_of_ble_eq_true rfl)
set_option maxRecDepth 65536 in
set_option maxHeartbeats 40000000 in
theorem law11 (l : Launch) (Z : State) (a0 : Array Value) (hw : ∀ d ∈ tables_1, d.before a0 Z = true) (a b c0 t n : Int32) (xv yv zv : Int64) (p0 p1 p2 : Int32) (h0 : Heap) (n0 : Nat) (Z0 : n0 ≤ h0.size) (hx1 : (a &&& (2147483647 : Int32)).toInt64 = xv) (hy1 : (b &&& (2147483647 : Int32)).toInt64 = yv) (hz1 : (c0 &&& (2147483647 : Int32)).toInt64 = zv) (hp0 : (own_minL (own_minL xv yv) zv).toInt32 = p0) (hp1 : ((((xv + yv) + zv) - (own_minL (own_minL xv yv) zv)) - (own_maxL (own_maxL xv yv) zv)).toInt32 = p1) (hp2 : (own_maxL (own_maxL xv yv) zv).toInt32 = p2) (g0 : ¬ p0 < 0) (g1 : ¬ p1 < 0) (g2 : ¬ p2 < 0) (hk : n &&& (3 : Int32) = 1) (lt0 : p0 < t) :
    ConH l Z h0 x code maxLocals ret room_1 #[(.int a), (.int b), (.int c0), (.int t), (.int n)] (fun v h L => v = some (.int 1) ∧ Fr n0 L) := by
  refine con_ofH (plainFor_of_name pn_0) (Ls := #[.val (.int a), .val (.int b), .val (.int c0), .val (.int t), .val (.int n), .unset, .unset, .unset, .unset, .unset, .unset, .unset, .unset, .unset, .unset, .unset, .unset, .unset, .unset, .unset, .unset, .unset, .unset]) (fun m => by first | (simp [entryFrame, mkF, argsToLocals, Value.category, maxLocals]; done) | rfl) ?_
  intro p e s m below meth c s₁ hx hH hby hml hret hlk hnm hown hnamed X0 e0
  have hZ := hH.wide
  refine g_iloadN X0 hx (hb hby at_0) (v := a) rfl (q := 1) rfl ?_
  refine g_ldcI X0 hx hZ hown (hw _ (List.mem_of_getElem? (i := 0) rfl)) (hb hby at_1) (q := 3) rfl ?_
  refine g_iand X0 hx (hb hby at_3) (z := (a &&& (2147483647 : Int32))) rfl (q := 4) rfl ?_
  refine g_i2l X0 hx (hb hby at_4) (z := xv) hx1 (q := 5) rfl ?_
  refine g_lstore X0 hx (hb hby at_5) (L' := #[.val (.int a), .val (.int b), .val (.int c0), .val (.int t), .val (.int n), .val (.long xv), .second, .unset, .unset, .unset, .unset, .unset, .unset, .unset, .unset, .unset, .unset, .unset, .unset, .unset, .unset, .unset, .unset]) rfl (q := 7) rfl ?_
  refine g_iloadN X0 hx (hb hby at_7) (v := b) rfl (q := 8) rfl ?_
  refine g_ldcI X0 hx hZ hown (hw _ (List.mem_of_getElem? (i := 0) rfl)) (hb hby at_8) (q := 10) rfl ?_
  refine g_iand X0 hx (hb hby at_10) (z := (b &&& (2147483647 : Int32))) rfl (q := 11) rfl ?_
  refine g_i2l X0 hx (hb hby at_11) (z := yv) hy1 (q := 12) rfl ?_
  refine g_lstore X0 hx (hb hby at_12) (L' := #[.val (.int a), .val (.int b), .val (.int c0), .val (.int t), .val (.int n), .val (.long xv), .second, .val (.long yv), .second, .unset, .unset, .unset, .unset, .unset, .unset, .unset, .unset, .unset, .unset, .unset, .unset, .unset, .unset]) rfl (q := 14) rfl ?_
  refine g_iloadN X0 hx (hb hby at_14) (v := c0) rfl (q := 15) rfl ?_
  refine g_ldcI X0 hx hZ hown (hw _ (List.mem_of_getElem? (i := 0) rfl)) (hb hby at_15) (q := 17) rfl ?_
  refine g_iand X0 hx (hb hby at_17) (z := (c0 &&& (2147483647 : Int32))) rfl (q := 18) rfl ?_
  refine g_i2l X0 hx (hb hby at_18) (z := zv) hz1 (q := 19) rfl ?_
  refine g_lstore X0 hx (hb hby at_19) (L' := #[.val (.int a), .val (.int b), .val (.int c0), .val (.int t), .val (.int n), .val (.long xv), .second, .val (.long yv), .second, .val (.long zv), .second, .unset, .unset, .unset, .unset, .unset, .unset, .unset, .unset, .unset, .unset, .unset, .unset]) rfl (q := 21) rfl ?_
  refine g_lload X0 hx (hb hby at_21) (v := xv) rfl (q := 23) rfl ?_
  refine g_lload X0 hx (hb hby at_23) (v := yv) rfl (q := 25) rfl ?_
  refine g_callS X0 hx hZ hown (hw _ (List.mem_of_getElem? (i := 1) rfl)) (hw _ (List.mem_of_getElem? (i := 2) rfl)) (hw _ (List.mem_of_getElem? (i := 3) rfl)) (hw _ (List.mem_of_getElem? (i := 4) rfl)) (by decide) e0 (rmMinL l Z a0 hw xv yv h0) (by exact hml.symm) (argsL := [(.long xv), (.long yv)]) (rest := []) rfl rfl pd_2 rfl (Nat.le_of_ble_eq_true rfl) (Nat.le_of_ble_eq_true rfl) (Nat.le_of_ble_eq_true rfl) (Nat.le_of_ble_eq_true rfl) (hb hby at_25) (q := 28) rfl (g_pure rfl rfl fun T238 X238 e238 => ?_)
  show Go p e below _ (T238.setTop (mkF m 28 #[.val (.int a), .val (.int b), .val (.int c0), .val (.int t), .val (.int n), .val (.long xv), .second, .val (.long yv), .second, .val (.long zv), .second, .unset, .unset, .unset, .unset, .unset, .unset, .unset, .unset, .unset, .unset, .unset, .unset] [(.long (own_minL xv yv))]))
  refine g_lload X238 hx (hb hby at_28) (v := zv) rfl (q := 30) rfl ?_
  refine g_callS X238 hx hZ hown (hw _ (List.mem_of_getElem? (i := 1) rfl)) (hw _ (List.mem_of_getElem? (i := 2) rfl)) (hw _ (List.mem_of_getElem? (i := 3) rfl)) (hw _ (List.mem_of_getElem? (i := 4) rfl)) (by decide) e238 (rmMinL l Z a0 hw (own_minL xv yv) zv h0) (by exact hml.symm) (argsL := [(.long (own_minL xv yv)), (.long zv)]) (rest := []) rfl rfl pd_2 rfl (Nat.le_of_ble_eq_true rfl) (Nat.le_of_ble_eq_true rfl) (Nat.le_of_ble_eq_true rfl) (Nat.le_of_ble_eq_true rfl) (hb hby at_30) (q := 33) rfl (g_pure rfl rfl fun T239 X239 e239 => ?_)
  show Go p e below _ (T239.setTop (mkF m 33 #[.val (.int a), .val (.int b), .val (.int c0), .val (.int t), .val (.int n), .val (.long xv), .second, .val (.long yv), .second, .val (.long zv), .second, .unset, .unset, .unset, .unset, .unset, .unset, .unset, .unset, .unset, .unset, .unset, .unset] [(.long (own_minL (own_minL xv yv) zv))]))
  refine g_lstore X239 hx (hb hby at_33) (L' := #[.val (.int a), .val (.int b), .val (.int c0), .val (.int t), .val (.int n), .val (.long xv), .second, .val (.long yv), .second, .val (.long zv), .second, .val (.long (own_minL (own_minL xv yv) zv)), .second, .unset, .unset, .unset, .unset, .unset, .unset, .unset, .unset, .unset, .unset]) rfl (q := 35) rfl ?_
  refine g_lload X239 hx (hb hby at_35) (v := xv) rfl (q := 37) rfl ?_
  refine g_lload X239 hx (hb hby at_37) (v := yv) rfl (q := 39) rfl ?_
  refine g_callS X239 hx hZ hown (hw _ (List.mem_of_getElem? (i := 5) rfl)) (hw _ (List.mem_of_getElem? (i := 6) rfl)) (hw _ (List.mem_of_getElem? (i := 3) rfl)) (hw _ (List.mem_of_getElem? (i := 7) rfl)) (by decide) e239 (rmMaxL l Z a0 hw xv yv h0) (by exact hml.symm) (argsL := [(.long xv), (.long yv)]) (rest := []) rfl rfl pd_2 rfl (Nat.le_of_ble_eq_true rfl) (Nat.le_of_ble_eq_true rfl) (Nat.le_of_ble_eq_true rfl) (Nat.le_of_ble_eq_true rfl) (hb hby at_39) (q := 42) rfl (g_pure rfl rfl fun T240 X240 e240 => ?_)
  show Go p e below _ (T240.setTop (mkF m 42 #[.val (.int a), .val (.int b), .val (.int c0), .val (.int t), .val (.int n), .val (.long xv), .second, .val (.long yv), .second, .val (.long zv), .second, .val (.long (own_minL (own_minL xv yv) zv)), .second, .unset, .unset, .unset, .unset, .unset, .unset, .unset, .unset, .unset, .unset] [(.long (own_maxL xv yv))]))
  refine g_lload X240 hx (hb hby at_42) (v := zv) rfl (q := 44) rfl ?_
  refine g_callS X240 hx hZ hown (hw _ (List.mem_of_getElem? (i := 5) rfl)) (hw _ (List.mem_of_getElem? (i := 6) rfl)) (hw _ (List.mem_of_getElem? (i := 3) rfl)) (hw _ (List.mem_of_getElem? (i := 7) rfl)) (by decide) e240 (rmMaxL l Z a0 hw (own_maxL xv yv) zv h0) (by exact hml.symm) (argsL := [(.long (own_maxL xv yv)), (.long zv)]) (rest := []) rfl rfl pd_2 rfl (Nat.le_of_ble_eq_true rfl) (Nat.le_of_ble_eq_true rfl) (Nat.le_of_ble_eq_true rfl) (Nat.le_of_ble_eq_true rfl) (hb hby at_44) (q := 47) rfl (g_pure rfl rfl fun T241 X241 e241 => ?_)
  show Go p e below _ (T241.setTop (mkF m 47 #[.val (.int a), .val (.int b), .val (.int c0), .val (.int t), .val (.int n), .val (.long xv), .second, .val (.long yv), .second, .val (.long zv), .second, .val (.long (own_minL (own_minL xv yv) zv)), .second, .unset, .unset, .unset, .unset, .unset, .unset, .unset, .unset, .unset, .unset] [(.long (own_maxL (own_maxL xv yv) zv))]))
  refine g_lstore X241 hx (hb hby at_47) (L' := #[.val (.int a), .val (.int b), .val (.int c0), .val (.int t), .val (.int n), .val (.long xv), .second, .val (.long yv), .second, .val (.long zv), .second, .val (.long (own_minL (own_minL xv yv) zv)), .second, .val (.long (own_maxL (own_maxL xv yv) zv)), .second, .unset, .unset, .unset, .unset, .unset, .unset, .unset, .unset]) rfl (q := 49) rfl ?_
  refine g_lload X241 hx (hb hby at_49) (v := xv) rfl (q := 51) rfl ?_
  refine g_lload X241 hx (hb hby at_51) (v := yv) rfl (q := 53) rfl ?_
  refine g_ladd X241 hx (hb hby at_53) (z := (xv + yv)) rfl (q := 54) rfl ?_
  refine g_lload X241 hx (hb hby at_54) (v := zv) rfl (q := 56) rfl ?_
  refine g_ladd X241 hx (hb hby at_56) (z := ((xv + yv) + zv)) rfl (q := 57) rfl ?_
  refine g_lload X241 hx (hb hby at_57) (v := (own_minL (own_minL xv yv) zv)) rfl (q := 59) rfl ?_
  refine g_lsub X241 hx (hb hby at_59) (z := (((xv + yv) + zv) - (own_minL (own_minL xv yv) zv))) rfl (q := 60) rfl ?_
  refine g_lload X241 hx (hb hby at_60) (v := (own_maxL (own_maxL xv yv) zv)) rfl (q := 62) rfl ?_
  refine g_lsub X241 hx (hb hby at_62) (z := ((((xv + yv) + zv) - (own_minL (own_minL xv yv) zv)) - (own_maxL (own_maxL xv yv) zv))) rfl (q := 63) rfl ?_
  refine g_lstore X241 hx (hb hby at_63) (L' := #[.val (.int a), .val (.int b), .val (.int c0), .val (.int t), .val (.int n), .val (.long xv), .second, .val (.long yv), .second, .val (.long zv), .second, .val (.long (own_minL (own_minL xv yv) zv)), .second, .val (.long (own_maxL (own_maxL xv yv) zv)), .second, .val (.long ((((xv + yv) + zv) - (own_minL (own_minL xv yv) zv)) - (own_maxL (own_maxL xv yv) zv))), .second, .unset, .unset, .unset, .unset, .unset, .unset]) rfl (q := 65) rfl ?_
  refine g_lload X241 hx (hb hby at_65) (v := (own_minL (own_minL xv yv) zv)) rfl (q := 67) rfl ?_
  refine g_l2i X241 hx (hb hby at_67) (z := p0) hp0 (q := 68) rfl ?_
  refine g_istore X241 hx (hb hby at_68) (L' := #[.val (.int a), .val (.int b), .val (.int c0), .val (.int t), .val (.int n), .val (.long xv), .second, .val (.long yv), .second, .val (.long zv), .second, .val (.long (own_minL (own_minL xv yv) zv)), .second, .val (.long (own_maxL (own_maxL xv yv) zv)), .second, .val (.long ((((xv + yv) + zv) - (own_minL (own_minL xv yv) zv)) - (own_maxL (own_maxL xv yv) zv))), .second, .val (.int p0), .unset, .unset, .unset, .unset, .unset]) rfl (q := 70) rfl ?_
  refine g_lload X241 hx (hb hby at_70) (v := ((((xv + yv) + zv) - (own_minL (own_minL xv yv) zv)) - (own_maxL (own_maxL xv yv) zv))) rfl (q := 72) rfl ?_
  refine g_l2i X241 hx (hb hby at_72) (z := p1) hp1 (q := 73) rfl ?_
  refine g_istore X241 hx (hb hby at_73) (L' := #[.val (.int a), .val (.int b), .val (.int c0), .val (.int t), .val (.int n), .val (.long xv), .second, .val (.long yv), .second, .val (.long zv), .second, .val (.long (own_minL (own_minL xv yv) zv)), .second, .val (.long (own_maxL (own_maxL xv yv) zv)), .second, .val (.long ((((xv + yv) + zv) - (own_minL (own_minL xv yv) zv)) - (own_maxL (own_maxL xv yv) zv))), .second, .val (.int p0), .val (.int p1), .unset, .unset, .unset, .unset]) rfl (q := 75) rfl ?_
  refine g_lload X241 hx (hb hby at_75) (v := (own_maxL (own_maxL xv yv) zv)) rfl (q := 77) rfl ?_
  refine g_l2i X241 hx (hb hby at_77) (z := p2) hp2 (q := 78) rfl ?_
  refine g_istore X241 hx (hb hby at_78) (L' := #[.val (.int a), .val (.int b), .val (.int c0), .val (.int t), .val (.int n), .val (.long xv), .second, .val (.long yv), .second, .val (.long zv), .second, .val (.long (own_minL (own_minL xv yv) zv)), .second, .val (.long (own_maxL (own_maxL xv yv) zv)), .second, .val (.long ((((xv + yv) + zv) - (own_minL (own_minL xv yv) zv)) - (own_maxL (own_maxL xv yv) zv))), .second, .val (.int p0), .val (.int p1), .val (.int p2), .unset, .unset, .unset]) rfl (q := 80) rfl ?_
  refine g_iload X241 hx (hb hby at_80) (v := n) rfl (q := 82) rfl ?_
  refine g_iconst X241 hx (hb hby at_82) (n := (3 : Int32)) (by decide) (q := 83) rfl ?_
  refine g_iand X241 hx (hb hby at_83) (z := (1 : Int32)) hk (q := 84) rfl ?_
  refine g_istore X241 hx (hb hby at_84) (L' := #[.val (.int a), .val (.int b), .val (.int c0), .val (.int t), .val (.int n), .val (.long xv), .second, .val (.long yv), .second, .val (.long zv), .second, .val (.long (own_minL (own_minL xv yv) zv)), .second, .val (.long (own_maxL (own_maxL xv yv) zv)), .second, .val (.long ((((xv + yv) + zv) - (own_minL (own_minL xv yv) zv)) - (own_maxL (own_maxL xv yv) zv))), .second, .val (.int p0), .val (.int p1), .val (.int p2), .val (.int (1 : Int32)), .unset, .unset]) rfl (q := 86) rfl ?_
  refine g_new X241 hx hZ hown (hw _ (List.mem_of_getElem? (i := 8) rfl)) (hw _ (List.mem_of_getElem? (i := 9) rfl)) (hw _ (List.mem_of_getElem? (i := 10) rfl)) e241 (hb hby at_86) (Nat.le_of_ble_eq_true rfl) (Nat.le_of_ble_eq_true rfl) (q := 89) rfl fun T242 h242 bi g242 X242 e242 E242 A242 D242 => ?_
  have ge_bi : n0 ≤ bi := Nat.le_trans Z0 (Nat.le_of_eq g242.symm)
  have z_242 := Nat.le_trans Z0 E242.1
  have F242_entries : Fld Z h242 bi "com/example/newlyn/newlyn/storage/SegmentIndex" "entries" "[J" .null := D242 (Or.inl (hw _ (List.mem_of_getElem? (i := 19) rfl))) (ty := (.array .long)) (by decide)
  have F242_count : Fld Z h242 bi "com/example/newlyn/newlyn/storage/SegmentIndex" "count" "I" (.int (0 : Int32)) := D242 (Or.inl (hw _ (List.mem_of_getElem? (i := 26) rfl))) (ty := .int) (by decide)
  refine g_dup X242 hx (hb hby at_89) rfl (q := 90) rfl ?_
  refine g_callI X242 hx hZ hown rfl (hw _ (List.mem_of_getElem? (i := 11) rfl)) (hw _ (List.mem_of_getElem? (i := 12) rfl)) (hw _ (List.mem_of_getElem? (i := 13) rfl)) (hw _ (List.mem_of_getElem? (i := 10) rfl)) (by decide) e242 (b := bi) (rmC l Z a0 hw bi h242 n0 z_242 ge_bi A242 F242_entries F242_count) (by exact hml.symm) (argsL := []) (rest := [(.ref bi)]) rfl rfl pd_3 rfl (Nat.le_of_ble_eq_true rfl) (Nat.le_of_ble_eq_true rfl) (Nat.le_of_ble_eq_true rfl) (Nat.le_of_ble_eq_true rfl) (hb hby at_90) (q := 93) rfl (fun v243 T243 L243 X243 hQ243 => ?_)
  generalize e243 : T243.heap = h243 at hQ243
  obtain ⟨rfl, M243, K243, A243, ae, g243, B243, C243, V243⟩ := hQ243
  have N243 := Fr.app (Fr.nil n0) M243
  have ne_bi_ae : bi ≠ ae := Nat.ne_of_lt (Nat.lt_of_lt_of_le A242.lt g243)
  have ge_ae : n0 ≤ ae := Nat.le_trans z_242 g243
  have Z243 : n0 ≤ h243.size := Nat.le_trans z_242 K243.1
  show Go p e below _ (T243.setTop (mkF m 93 #[.val (.int a), .val (.int b), .val (.int c0), .val (.int t), .val (.int n), .val (.long xv), .second, .val (.long yv), .second, .val (.long zv), .second, .val (.long (own_minL (own_minL xv yv) zv)), .second, .val (.long (own_maxL (own_maxL xv yv) zv)), .second, .val (.long ((((xv + yv) + zv) - (own_minL (own_minL xv yv) zv)) - (own_maxL (own_maxL xv yv) zv))), .second, .val (.int p0), .val (.int p1), .val (.int p2), .val (.int (1 : Int32)), .unset, .unset] [(.ref bi)]))
  refine g_astore X243 hx (hb hby at_93) rfl (L' := #[.val (.int a), .val (.int b), .val (.int c0), .val (.int t), .val (.int n), .val (.long xv), .second, .val (.long yv), .second, .val (.long zv), .second, .val (.long (own_minL (own_minL xv yv) zv)), .second, .val (.long (own_maxL (own_maxL xv yv) zv)), .second, .val (.long ((((xv + yv) + zv) - (own_minL (own_minL xv yv) zv)) - (own_maxL (own_maxL xv yv) zv))), .second, .val (.int p0), .val (.int p1), .val (.int p2), .val (.int (1 : Int32)), .val (.ref bi), .unset]) rfl (q := 95) rfl ?_
  refine g_iload X243 hx (hb hby at_95) (v := (1 : Int32)) rfl (q := 97) rfl ?_
  refine g_if_le X243 hx (hb hby at_97) (by decide) (q := 109) (by decide) (q2 := 100) rfl (fun hb97 => absurd hb97 (by decide)) (fun hb97 => ?_)
  refine g_aload X243 hx (hb hby at_100) (v := (.ref bi)) rfl rfl (q := 102) rfl ?_
  refine g_iconst X243 hx (hb hby at_102) (n := (0 : Int32)) (by decide) (q := 103) rfl ?_
  refine g_iload X243 hx (hb hby at_103) (v := p0) rfl (q := 105) rfl ?_
  refine g_lconst X243 hx (hb hby at_105) (n := (0 : Int64)) (by decide) (q := 106) rfl ?_
  refine g_callV X243 hx hZ hown (hw _ (List.mem_of_getElem? (i := 48) rfl)) (hw _ (List.mem_of_getElem? (i := 49) rfl)) (hw _ (List.mem_of_getElem? (i := 51) rfl)) (hw _ (List.mem_of_getElem? (i := 50) rfl)) (hw _ (List.mem_of_getElem? (i := 52) rfl)) (hw _ (List.mem_of_getElem? (i := 10) rfl)) (notFace_of_selects (args := #[]) (mvT hZ (hw _ (List.mem_of_getElem? (i := 51) rfl)))) (by decide) e243 A243 (rmA l Z a0 hw bi ae (0 : Int32) p0 (0 : Int64) (0 : Int32) (1 : Int32) (2 : Int32) (0 : Int32) (1 : Int32) (by decide) (by decide) (by decide) (by decide) (by decide) (fun _ => .long (0 : Int64)) h243 n0 (by decide) (by decide) (by decide) (by decide) ge_bi ge_ae ne_bi_ae A243 B243 C243 V243) (by exact hml.symm) (argsL := [(.int (0 : Int32)), (.int p0), (.long (0 : Int64))]) (rest := []) rfl rfl pd_7 rfl (Nat.le_of_ble_eq_true rfl) (Nat.le_of_ble_eq_true rfl) (Nat.le_of_ble_eq_true rfl) (Nat.le_of_ble_eq_true rfl) (hb hby at_106) (q := 109) rfl (fun v244 T244 L244 X244 hQ244 => ?_)
  generalize e244 : T244.heap = h244 at hQ244
  obtain ⟨rfl, M244, K244, A244, B244, C244, V244⟩ := hQ244
  have N244 := Fr.app N243 M244
  have Z244 : n0 ≤ h244.size := Nat.le_trans Z243 K244.1
  show Go p e below _ (T244.setTop (mkF m 109 #[.val (.int a), .val (.int b), .val (.int c0), .val (.int t), .val (.int n), .val (.long xv), .second, .val (.long yv), .second, .val (.long zv), .second, .val (.long (own_minL (own_minL xv yv) zv)), .second, .val (.long (own_maxL (own_maxL xv yv) zv)), .second, .val (.long ((((xv + yv) + zv) - (own_minL (own_minL xv yv) zv)) - (own_maxL (own_maxL xv yv) zv))), .second, .val (.int p0), .val (.int p1), .val (.int p2), .val (.int (1 : Int32)), .val (.ref bi), .unset] []))
  refine g_iload X244 hx (hb hby at_109) (v := (1 : Int32)) rfl (q := 111) rfl ?_
  refine g_iconst X244 hx (hb hby at_111) (n := (1 : Int32)) (by decide) (q := 112) rfl ?_
  refine g_icmp_le X244 hx (hb hby at_112) (by decide) (q := 124) (by decide) (q2 := 115) rfl (fun hb112 => ?_) (fun hb112 => absurd hb112 (by decide))
  refine g_iload X244 hx (hb hby at_124) (v := (1 : Int32)) rfl (q := 126) rfl ?_
  refine g_iconst X244 hx (hb hby at_126) (n := (2 : Int32)) (by decide) (q := 127) rfl ?_
  refine g_icmp_le X244 hx (hb hby at_127) (by decide) (q := 141) (by decide) (q2 := 130) rfl (fun hb127 => ?_) (fun hb127 => absurd hb127 (by decide))
  refine g_aload X244 hx (hb hby at_141) (v := (.ref bi)) rfl rfl (q := 143) rfl ?_
  refine g_iloadN X244 hx (hb hby at_143) (v := t) rfl (q := 144) rfl ?_
  have q0 : ((fun i => if i = (1 : Int32).toNatClampNeg then .long (0 : Int64) else if i = (0 : Int32).toNatClampNeg then .long (own_entry (0 : Int32) p0) else (fun _ => .long (0 : Int64)) i) : Nat → Value) (0 : Int32).toNatClampNeg = .long (own_entry (0 : Int32) p0) := by rfl
  have r0 := own_entry_pos (0 : Int32) p0 (by decide) g0
  have o0 : own_off (own_entry (0 : Int32) p0) = (0 : Int64) := (own_entry_off (0 : Int32) p0 (by decide) g0).trans (by decide)
  refine g_callV X244 hx hZ hown (hw _ (List.mem_of_getElem? (i := 20) rfl)) (hw _ (List.mem_of_getElem? (i := 21) rfl)) (hw _ (List.mem_of_getElem? (i := 23) rfl)) (hw _ (List.mem_of_getElem? (i := 22) rfl)) (hw _ (List.mem_of_getElem? (i := 24) rfl)) (hw _ (List.mem_of_getElem? (i := 10) rfl)) (notFace_of_selects (args := #[]) (mvT hZ (hw _ (List.mem_of_getElem? (i := 23) rfl)))) (by decide) e244 A244 (rmT1 l Z a0 hw bi ae t p0 (own_entry (0 : Int32) p0) (fun i => if i = (1 : Int32).toNatClampNeg then .long (0 : Int64) else if i = (0 : Int32).toNatClampNeg then .long (own_entry (0 : Int32) p0) else (fun _ => .long (0 : Int64)) i) h244 n0 ge_bi ne_bi_ae A244 B244 C244 V244 q0 r0) (by exact hml.symm) (argsL := [(.int t)]) (rest := []) rfl rfl pd_4 rfl (Nat.le_of_ble_eq_true rfl) (Nat.le_of_ble_eq_true rfl) (Nat.le_of_ble_eq_true rfl) (Nat.le_of_ble_eq_true rfl) (hb hby at_144) (q := 147) rfl (fun v245 T245 L245 X245 hQ245 => ?_)
  generalize e245 : T245.heap = h245 at hQ245
  obtain ⟨rfl, M245, K245, A245, B245, C245⟩ := hQ245
  have N245 := Fr.app N244 M245
  have Z245 : n0 ≤ h245.size := Nat.le_trans Z244 K245.1
  have V245 := V244.keep K245 (ninS (Ne.symm ne_bi_ae) nin0)
  rw [show own_tr1 t p0 = (1 : Int32) from by rw [own_tr1, if_pos lt0]] at C245
  show Go p e below _ (T245.setTop (mkF m 147 #[.val (.int a), .val (.int b), .val (.int c0), .val (.int t), .val (.int n), .val (.long xv), .second, .val (.long yv), .second, .val (.long zv), .second, .val (.long (own_minL (own_minL xv yv) zv)), .second, .val (.long (own_maxL (own_maxL xv yv) zv)), .second, .val (.long ((((xv + yv) + zv) - (own_minL (own_minL xv yv) zv)) - (own_maxL (own_maxL xv yv) zv))), .second, .val (.int p0), .val (.int p1), .val (.int p2), .val (.int (1 : Int32)), .val (.ref bi), .unset] []))
  refine g_iconst X245 hx (hb hby at_147) (n := (0 : Int32)) (by decide) (q := 148) rfl ?_
  refine g_istore X245 hx (hb hby at_148) (L' := #[.val (.int a), .val (.int b), .val (.int c0), .val (.int t), .val (.int n), .val (.long xv), .second, .val (.long yv), .second, .val (.long zv), .second, .val (.long (own_minL (own_minL xv yv) zv)), .second, .val (.long (own_maxL (own_maxL xv yv) zv)), .second, .val (.long ((((xv + yv) + zv) - (own_minL (own_minL xv yv) zv)) - (own_maxL (own_maxL xv yv) zv))), .second, .val (.int p0), .val (.int p1), .val (.int p2), .val (.int (1 : Int32)), .val (.ref bi), .val (.int (0 : Int32))]) rfl (q := 150) rfl ?_
  refine g_iload X245 hx (hb hby at_150) (v := (1 : Int32)) rfl (q := 152) rfl ?_
  refine g_if_le X245 hx (hb hby at_152) (by decide) (q := 164) (by decide) (q2 := 155) rfl (fun hb152 => absurd hb152 (by decide)) (fun hb152 => ?_)
  refine g_iload X245 hx (hb hby at_155) (v := p0) rfl (q := 157) rfl ?_
  refine g_iloadN X245 hx (hb hby at_157) (v := t) rfl (q := 158) rfl ?_
  refine g_icmp_ge X245 hx (hb hby at_158) (by decide) (q := 164) (by decide) (q2 := 161) rfl (fun hb158 => absurd hb158 (not_not_intro lt0)) (fun hb158 => ?_)
  refine g_iconst X245 hx (hb hby at_161) (n := (1 : Int32)) (by decide) (q := 162) rfl ?_
  refine g_istore X245 hx (hb hby at_162) (L' := #[.val (.int a), .val (.int b), .val (.int c0), .val (.int t), .val (.int n), .val (.long xv), .second, .val (.long yv), .second, .val (.long zv), .second, .val (.long (own_minL (own_minL xv yv) zv)), .second, .val (.long (own_maxL (own_maxL xv yv) zv)), .second, .val (.long ((((xv + yv) + zv) - (own_minL (own_minL xv yv) zv)) - (own_maxL (own_maxL xv yv) zv))), .second, .val (.int p0), .val (.int p1), .val (.int p2), .val (.int (1 : Int32)), .val (.ref bi), .val (.int (1 : Int32))]) rfl (q := 164) rfl ?_
  refine g_iload X245 hx (hb hby at_164) (v := (1 : Int32)) rfl (q := 166) rfl ?_
  refine g_iconst X245 hx (hb hby at_166) (n := (1 : Int32)) (by decide) (q := 167) rfl ?_
  refine g_icmp_ne X245 hx (hb hby at_167) (by decide) (q := 185) (by decide) (q2 := 170) rfl (fun hb167 => absurd hb167 (by decide)) (fun hb167 => ?_)
  refine g_iload X245 hx (hb hby at_170) (v := (1 : Int32)) rfl (q := 172) rfl ?_
  refine g_iconst X245 hx (hb hby at_172) (n := (1 : Int32)) (by decide) (q := 173) rfl ?_
  refine g_icmp_le X245 hx (hb hby at_173) (by decide) (q := 185) (by decide) (q2 := 176) rfl (fun hb173 => ?_) (fun hb173 => absurd hb173 (by decide))
  refine g_iload X245 hx (hb hby at_185) (v := (1 : Int32)) rfl (q := 187) rfl ?_
  refine g_iconst X245 hx (hb hby at_187) (n := (2 : Int32)) (by decide) (q := 188) rfl ?_
  refine g_icmp_ne X245 hx (hb hby at_188) (by decide) (q := 206) (by decide) (q2 := 191) rfl (fun hb188 => ?_) (fun hb188 => absurd hb188 (by decide))
  refine g_aload X245 hx (hb hby at_206) (v := (.ref bi)) rfl rfl (q := 208) rfl ?_
  refine g_lconst X245 hx (hb hby at_208) (n := (0 : Int64)) (by decide) (q := 209) rfl ?_
  refine g_callVH X245 hx hH hown (hw _ (List.mem_of_getElem? (i := 27) rfl)) (hw _ (List.mem_of_getElem? (i := 28) rfl)) (hw _ (List.mem_of_getElem? (i := 30) rfl)) (hw _ (List.mem_of_getElem? (i := 29) rfl)) (hw _ (List.mem_of_getElem? (i := 31) rfl)) (hw _ (List.mem_of_getElem? (i := 10) rfl)) (notFace_of_selects (args := #[]) (mvT hZ (hw _ (List.mem_of_getElem? (i := 30) rfl)))) (by decide) e245 A245 (rmF10 l Z a0 hw bi ae (own_entry (0 : Int32) p0) p0 (fun i => if i = (1 : Int32).toNatClampNeg then .long (0 : Int64) else if i = (0 : Int32).toNatClampNeg then .long (own_entry (0 : Int32) p0) else (fun _ => .long (0 : Int64)) i) h245 A245 B245 C245 V245 q0 r0 o0) (by exact hml.symm) (argsL := [(.long (0 : Int64))]) (rest := []) rfl rfl pd_5 rfl (Nat.le_of_ble_eq_true rfl) (Nat.le_of_ble_eq_true rfl) (Nat.le_of_ble_eq_true rfl) (Nat.le_of_ble_eq_true rfl) (hb hby at_209) (q := 212) rfl (fun v246 T246 L246 X246 hQ246 => ?_)
  generalize e246 : T246.heap = h246 at hQ246
  obtain ⟨rfl, rfl, E246⟩ := hQ246
  have z_246 := Nat.le_trans Z245 E246.1
  have f247 := (A245.ext E246)
  have f248 := (B245.ext E246)
  have f249 := (C245.ext E246)
  have f250 := (V245.ext E246)
  have N246 := Fr.app N245 (Fr.nil n0)
  show Go p e below _ (T246.setTop (mkF m 212 #[.val (.int a), .val (.int b), .val (.int c0), .val (.int t), .val (.int n), .val (.long xv), .second, .val (.long yv), .second, .val (.long zv), .second, .val (.long (own_minL (own_minL xv yv) zv)), .second, .val (.long (own_maxL (own_maxL xv yv) zv)), .second, .val (.long ((((xv + yv) + zv) - (own_minL (own_minL xv yv) zv)) - (own_maxL (own_maxL xv yv) zv))), .second, .val (.int p0), .val (.int p1), .val (.int p2), .val (.int (1 : Int32)), .val (.ref bi), .val (.int (1 : Int32))] [(.int p0)]))
  refine g_iconst X246 hx (hb hby at_212) (n := (0 : Int32)) (by decide) (q := 213) rfl ?_
  refine g_iload X246 hx (hb hby at_213) (v := (1 : Int32)) rfl (q := 215) rfl ?_
  refine g_iload X246 hx (hb hby at_215) (v := p0) rfl (q := 217) rfl ?_
  refine g_iload X246 hx (hb hby at_217) (v := p1) rfl (q := 219) rfl ?_
  refine g_iload X246 hx (hb hby at_219) (v := p2) rfl (q := 221) rfl ?_
  refine g_callS X246 hx hZ hown (hw _ (List.mem_of_getElem? (i := 40) rfl)) (hw _ (List.mem_of_getElem? (i := 41) rfl)) (hw _ (List.mem_of_getElem? (i := 42) rfl)) (hw _ (List.mem_of_getElem? (i := 43) rfl)) (by decide) e246 (rmX l Z a0 hw (0 : Int32) (1 : Int32) p0 p1 p2 p0 (own_exp_01 p0 p1 p2) h246) (by exact hml.symm) (argsL := [(.int (0 : Int32)), (.int (1 : Int32)), (.int p0), (.int p1), (.int p2)]) (rest := [(.int p0)]) rfl rfl pd_6 rfl (Nat.le_of_ble_eq_true rfl) (Nat.le_of_ble_eq_true rfl) (Nat.le_of_ble_eq_true rfl) (Nat.le_of_ble_eq_true rfl) (hb hby at_221) (q := 224) rfl (g_pure rfl rfl fun T251 X251 e251 => ?_)
  show Go p e below _ (T251.setTop (mkF m 224 #[.val (.int a), .val (.int b), .val (.int c0), .val (.int t), .val (.int n), .val (.long xv), .second, .val (.long yv), .second, .val (.long zv), .second, .val (.long (own_minL (own_minL xv yv) zv)), .second, .val (.long (own_maxL (own_maxL xv yv) zv)), .second, .val (.long ((((xv + yv) + zv) - (own_minL (own_minL xv yv) zv)) - (own_maxL (own_maxL xv yv) zv))), .second, .val (.int p0), .val (.int p1), .val (.int p2), .val (.int (1 : Int32)), .val (.ref bi), .val (.int (1 : Int32))] [(.int p0), (.int p0)]))
  refine g_icmp_ne X251 hx (hb hby at_224) (by decide) (q := 275) (by decide) (q2 := 227) rfl (fun hb224 => absurd hb224 (not_not_intro rfl)) (fun hb224 => ?_)
  refine g_aload X251 hx (hb hby at_227) (v := (.ref bi)) rfl rfl (q := 229) rfl ?_
  refine g_lconst X251 hx (hb hby at_229) (n := (1 : Int64)) (by decide) (q := 230) rfl ?_
  refine g_callVH X251 hx hH hown (hw _ (List.mem_of_getElem? (i := 27) rfl)) (hw _ (List.mem_of_getElem? (i := 28) rfl)) (hw _ (List.mem_of_getElem? (i := 30) rfl)) (hw _ (List.mem_of_getElem? (i := 29) rfl)) (hw _ (List.mem_of_getElem? (i := 31) rfl)) (hw _ (List.mem_of_getElem? (i := 10) rfl)) (notFace_of_selects (args := #[]) (mvT hZ (hw _ (List.mem_of_getElem? (i := 30) rfl)))) (by decide) e251 f247 (rmF11 l Z a0 hw bi ae (own_entry (0 : Int32) p0) p0 (fun i => if i = (1 : Int32).toNatClampNeg then .long (0 : Int64) else if i = (0 : Int32).toNatClampNeg then .long (own_entry (0 : Int32) p0) else (fun _ => .long (0 : Int64)) i) h246 f247 f248 f249 f250 q0 r0 o0) (by exact hml.symm) (argsL := [(.long (1 : Int64))]) (rest := []) rfl rfl pd_5 rfl (Nat.le_of_ble_eq_true rfl) (Nat.le_of_ble_eq_true rfl) (Nat.le_of_ble_eq_true rfl) (Nat.le_of_ble_eq_true rfl) (hb hby at_230) (q := 233) rfl (fun v252 T252 L252 X252 hQ252 => ?_)
  generalize e252 : T252.heap = h252 at hQ252
  obtain ⟨rfl, rfl, E252⟩ := hQ252
  have z_252 := Nat.le_trans z_246 E252.1
  have f253 := (f247.ext E252)
  have f254 := (f248.ext E252)
  have f255 := (f249.ext E252)
  have f256 := (f250.ext E252)
  have N252 := Fr.app N246 (Fr.nil n0)
  show Go p e below _ (T252.setTop (mkF m 233 #[.val (.int a), .val (.int b), .val (.int c0), .val (.int t), .val (.int n), .val (.long xv), .second, .val (.long yv), .second, .val (.long zv), .second, .val (.long (own_minL (own_minL xv yv) zv)), .second, .val (.long (own_maxL (own_maxL xv yv) zv)), .second, .val (.long ((((xv + yv) + zv) - (own_minL (own_minL xv yv) zv)) - (own_maxL (own_maxL xv yv) zv))), .second, .val (.int p0), .val (.int p1), .val (.int p2), .val (.int (1 : Int32)), .val (.ref bi), .val (.int (1 : Int32))] [(.int p0)]))
  refine g_iconst X252 hx (hb hby at_233) (n := (1 : Int32)) (by decide) (q := 234) rfl ?_
  refine g_iload X252 hx (hb hby at_234) (v := (1 : Int32)) rfl (q := 236) rfl ?_
  refine g_iload X252 hx (hb hby at_236) (v := p0) rfl (q := 238) rfl ?_
  refine g_iload X252 hx (hb hby at_238) (v := p1) rfl (q := 240) rfl ?_
  refine g_iload X252 hx (hb hby at_240) (v := p2) rfl (q := 242) rfl ?_
  refine g_callS X252 hx hZ hown (hw _ (List.mem_of_getElem? (i := 40) rfl)) (hw _ (List.mem_of_getElem? (i := 41) rfl)) (hw _ (List.mem_of_getElem? (i := 42) rfl)) (hw _ (List.mem_of_getElem? (i := 43) rfl)) (by decide) e252 (rmX l Z a0 hw (1 : Int32) (1 : Int32) p0 p1 p2 p0 (own_exp_11 p0 p1 p2) h252) (by exact hml.symm) (argsL := [(.int (1 : Int32)), (.int (1 : Int32)), (.int p0), (.int p1), (.int p2)]) (rest := [(.int p0)]) rfl rfl pd_6 rfl (Nat.le_of_ble_eq_true rfl) (Nat.le_of_ble_eq_true rfl) (Nat.le_of_ble_eq_true rfl) (Nat.le_of_ble_eq_true rfl) (hb hby at_242) (q := 245) rfl (g_pure rfl rfl fun T257 X257 e257 => ?_)
  show Go p e below _ (T257.setTop (mkF m 245 #[.val (.int a), .val (.int b), .val (.int c0), .val (.int t), .val (.int n), .val (.long xv), .second, .val (.long yv), .second, .val (.long zv), .second, .val (.long (own_minL (own_minL xv yv) zv)), .second, .val (.long (own_maxL (own_maxL xv yv) zv)), .second, .val (.long ((((xv + yv) + zv) - (own_minL (own_minL xv yv) zv)) - (own_maxL (own_maxL xv yv) zv))), .second, .val (.int p0), .val (.int p1), .val (.int p2), .val (.int (1 : Int32)), .val (.ref bi), .val (.int (1 : Int32))] [(.int p0), (.int p0)]))
  refine g_icmp_ne X257 hx (hb hby at_245) (by decide) (q := 275) (by decide) (q2 := 248) rfl (fun hb245 => absurd hb245 (not_not_intro rfl)) (fun hb245 => ?_)
  refine g_aload X257 hx (hb hby at_248) (v := (.ref bi)) rfl rfl (q := 250) rfl ?_
  refine g_ldcJ X257 hx hZ hown (hw _ (List.mem_of_getElem? (i := 47) rfl)) (hb hby at_250) (q := 253) rfl ?_
  refine g_callVH X257 hx hH hown (hw _ (List.mem_of_getElem? (i := 27) rfl)) (hw _ (List.mem_of_getElem? (i := 28) rfl)) (hw _ (List.mem_of_getElem? (i := 30) rfl)) (hw _ (List.mem_of_getElem? (i := 29) rfl)) (hw _ (List.mem_of_getElem? (i := 31) rfl)) (hw _ (List.mem_of_getElem? (i := 10) rfl)) (notFace_of_selects (args := #[]) (mvT hZ (hw _ (List.mem_of_getElem? (i := 30) rfl)))) (by decide) e257 f253 (rmF12 l Z a0 hw bi ae (own_entry (0 : Int32) p0) p0 (fun i => if i = (1 : Int32).toNatClampNeg then .long (0 : Int64) else if i = (0 : Int32).toNatClampNeg then .long (own_entry (0 : Int32) p0) else (fun _ => .long (0 : Int64)) i) h252 f253 f254 f255 f256 q0 r0 o0) (by exact hml.symm) (argsL := [(.long (2 : Int64))]) (rest := []) rfl rfl pd_5 rfl (Nat.le_of_ble_eq_true rfl) (Nat.le_of_ble_eq_true rfl) (Nat.le_of_ble_eq_true rfl) (Nat.le_of_ble_eq_true rfl) (hb hby at_253) (q := 256) rfl (fun v258 T258 L258 X258 hQ258 => ?_)
  generalize e258 : T258.heap = h258 at hQ258
  obtain ⟨rfl, rfl, E258⟩ := hQ258
  have z_258 := Nat.le_trans z_252 E258.1
  have f259 := (f253.ext E258)
  have f260 := (f254.ext E258)
  have f261 := (f255.ext E258)
  have f262 := (f256.ext E258)
  have N258 := Fr.app N252 (Fr.nil n0)
  show Go p e below _ (T258.setTop (mkF m 256 #[.val (.int a), .val (.int b), .val (.int c0), .val (.int t), .val (.int n), .val (.long xv), .second, .val (.long yv), .second, .val (.long zv), .second, .val (.long (own_minL (own_minL xv yv) zv)), .second, .val (.long (own_maxL (own_maxL xv yv) zv)), .second, .val (.long ((((xv + yv) + zv) - (own_minL (own_minL xv yv) zv)) - (own_maxL (own_maxL xv yv) zv))), .second, .val (.int p0), .val (.int p1), .val (.int p2), .val (.int (1 : Int32)), .val (.ref bi), .val (.int (1 : Int32))] [(.int p0)]))
  refine g_iconst X258 hx (hb hby at_256) (n := (2 : Int32)) (by decide) (q := 257) rfl ?_
  refine g_iload X258 hx (hb hby at_257) (v := (1 : Int32)) rfl (q := 259) rfl ?_
  refine g_iload X258 hx (hb hby at_259) (v := p0) rfl (q := 261) rfl ?_
  refine g_iload X258 hx (hb hby at_261) (v := p1) rfl (q := 263) rfl ?_
  refine g_iload X258 hx (hb hby at_263) (v := p2) rfl (q := 265) rfl ?_
  refine g_callS X258 hx hZ hown (hw _ (List.mem_of_getElem? (i := 40) rfl)) (hw _ (List.mem_of_getElem? (i := 41) rfl)) (hw _ (List.mem_of_getElem? (i := 42) rfl)) (hw _ (List.mem_of_getElem? (i := 43) rfl)) (by decide) e258 (rmX l Z a0 hw (2 : Int32) (1 : Int32) p0 p1 p2 p0 (own_exp_21 p0 p1 p2) h258) (by exact hml.symm) (argsL := [(.int (2 : Int32)), (.int (1 : Int32)), (.int p0), (.int p1), (.int p2)]) (rest := [(.int p0)]) rfl rfl pd_6 rfl (Nat.le_of_ble_eq_true rfl) (Nat.le_of_ble_eq_true rfl) (Nat.le_of_ble_eq_true rfl) (Nat.le_of_ble_eq_true rfl) (hb hby at_265) (q := 268) rfl (g_pure rfl rfl fun T263 X263 e263 => ?_)
  show Go p e below _ (T263.setTop (mkF m 268 #[.val (.int a), .val (.int b), .val (.int c0), .val (.int t), .val (.int n), .val (.long xv), .second, .val (.long yv), .second, .val (.long zv), .second, .val (.long (own_minL (own_minL xv yv) zv)), .second, .val (.long (own_maxL (own_maxL xv yv) zv)), .second, .val (.long ((((xv + yv) + zv) - (own_minL (own_minL xv yv) zv)) - (own_maxL (own_maxL xv yv) zv))), .second, .val (.int p0), .val (.int p1), .val (.int p2), .val (.int (1 : Int32)), .val (.ref bi), .val (.int (1 : Int32))] [(.int p0), (.int p0)]))
  refine g_icmp_ne X263 hx (hb hby at_268) (by decide) (q := 275) (by decide) (q2 := 271) rfl (fun hb268 => absurd hb268 (not_not_intro rfl)) (fun hb268 => ?_)
  refine g_iconst X263 hx (hb hby at_271) (n := (1 : Int32)) (by decide) (q := 272) rfl ?_
  refine g_goto X263 hx (hb hby at_272) (by decide) (q := 276) (by decide) ?_
  exact g_retB X263 hx hret hlk (hb hby at_276) (by decide) ⟨rfl, by simpa using N258⟩ (Nat.le_of_ble_eq_true rfl) (Nat.le_of_ble_eq_true rfl)
set_option maxRecDepth 65536 in
set_option maxHeartbeats 40000000 in
theorem law20 (l : Launch) (Z : State) (a0 : Array Value) (hw : ∀ d ∈ tables_1, d.before a0 Z = true) (a b c0 t n : Int32) (xv yv zv : Int64) (p0 p1 p2 : Int32) (h0 : Heap) (n0 : Nat) (Z0 : n0 ≤ h0.size) (hx1 : (a &&& (2147483647 : Int32)).toInt64 = xv) (hy1 : (b &&& (2147483647 : Int32)).toInt64 = yv) (hz1 : (c0 &&& (2147483647 : Int32)).toInt64 = zv) (hp0 : (own_minL (own_minL xv yv) zv).toInt32 = p0) (hp1 : ((((xv + yv) + zv) - (own_minL (own_minL xv yv) zv)) - (own_maxL (own_maxL xv yv) zv)).toInt32 = p1) (hp2 : (own_maxL (own_maxL xv yv) zv).toInt32 = p2) (g0 : ¬ p0 < 0) (g1 : ¬ p1 < 0) (g2 : ¬ p2 < 0) (hk : n &&& (3 : Int32) = 2) (lt0 : ¬ p0 < t) (lt1 : ¬ p1 < t) :
    ConH l Z h0 x code maxLocals ret room_1 #[(.int a), (.int b), (.int c0), (.int t), (.int n)] (fun v h L => v = some (.int 1) ∧ Fr n0 L) := by
  refine con_ofH (plainFor_of_name pn_0) (Ls := #[.val (.int a), .val (.int b), .val (.int c0), .val (.int t), .val (.int n), .unset, .unset, .unset, .unset, .unset, .unset, .unset, .unset, .unset, .unset, .unset, .unset, .unset, .unset, .unset, .unset, .unset, .unset]) (fun m => by first | (simp [entryFrame, mkF, argsToLocals, Value.category, maxLocals]; done) | rfl) ?_
  intro p e s m below meth c s₁ hx hH hby hml hret hlk hnm hown hnamed X0 e0
  have hZ := hH.wide
  refine g_iloadN X0 hx (hb hby at_0) (v := a) rfl (q := 1) rfl ?_
  refine g_ldcI X0 hx hZ hown (hw _ (List.mem_of_getElem? (i := 0) rfl)) (hb hby at_1) (q := 3) rfl ?_
  refine g_iand X0 hx (hb hby at_3) (z := (a &&& (2147483647 : Int32))) rfl (q := 4) rfl ?_
  refine g_i2l X0 hx (hb hby at_4) (z := xv) hx1 (q := 5) rfl ?_
  refine g_lstore X0 hx (hb hby at_5) (L' := #[.val (.int a), .val (.int b), .val (.int c0), .val (.int t), .val (.int n), .val (.long xv), .second, .unset, .unset, .unset, .unset, .unset, .unset, .unset, .unset, .unset, .unset, .unset, .unset, .unset, .unset, .unset, .unset]) rfl (q := 7) rfl ?_
  refine g_iloadN X0 hx (hb hby at_7) (v := b) rfl (q := 8) rfl ?_
  refine g_ldcI X0 hx hZ hown (hw _ (List.mem_of_getElem? (i := 0) rfl)) (hb hby at_8) (q := 10) rfl ?_
  refine g_iand X0 hx (hb hby at_10) (z := (b &&& (2147483647 : Int32))) rfl (q := 11) rfl ?_
  refine g_i2l X0 hx (hb hby at_11) (z := yv) hy1 (q := 12) rfl ?_
  refine g_lstore X0 hx (hb hby at_12) (L' := #[.val (.int a), .val (.int b), .val (.int c0), .val (.int t), .val (.int n), .val (.long xv), .second, .val (.long yv), .second, .unset, .unset, .unset, .unset, .unset, .unset, .unset, .unset, .unset, .unset, .unset, .unset, .unset, .unset]) rfl (q := 14) rfl ?_
  refine g_iloadN X0 hx (hb hby at_14) (v := c0) rfl (q := 15) rfl ?_
  refine g_ldcI X0 hx hZ hown (hw _ (List.mem_of_getElem? (i := 0) rfl)) (hb hby at_15) (q := 17) rfl ?_
  refine g_iand X0 hx (hb hby at_17) (z := (c0 &&& (2147483647 : Int32))) rfl (q := 18) rfl ?_
  refine g_i2l X0 hx (hb hby at_18) (z := zv) hz1 (q := 19) rfl ?_
  refine g_lstore X0 hx (hb hby at_19) (L' := #[.val (.int a), .val (.int b), .val (.int c0), .val (.int t), .val (.int n), .val (.long xv), .second, .val (.long yv), .second, .val (.long zv), .second, .unset, .unset, .unset, .unset, .unset, .unset, .unset, .unset, .unset, .unset, .unset, .unset]) rfl (q := 21) rfl ?_
  refine g_lload X0 hx (hb hby at_21) (v := xv) rfl (q := 23) rfl ?_
  refine g_lload X0 hx (hb hby at_23) (v := yv) rfl (q := 25) rfl ?_
  refine g_callS X0 hx hZ hown (hw _ (List.mem_of_getElem? (i := 1) rfl)) (hw _ (List.mem_of_getElem? (i := 2) rfl)) (hw _ (List.mem_of_getElem? (i := 3) rfl)) (hw _ (List.mem_of_getElem? (i := 4) rfl)) (by decide) e0 (rmMinL l Z a0 hw xv yv h0) (by exact hml.symm) (argsL := [(.long xv), (.long yv)]) (rest := []) rfl rfl pd_2 rfl (Nat.le_of_ble_eq_true rfl) (Nat.le_of_ble_eq_true rfl) (Nat.le_of_ble_eq_true rfl) (Nat.le_of_ble_eq_true rfl) (hb hby at_25) (q := 28) rfl (g_pure rfl rfl fun T264 X264 e264 => ?_)
  show Go p e below _ (T264.setTop (mkF m 28 #[.val (.int a), .val (.int b), .val (.int c0), .val (.int t), .val (.int n), .val (.long xv), .second, .val (.long yv), .second, .val (.long zv), .second, .unset, .unset, .unset, .unset, .unset, .unset, .unset, .unset, .unset, .unset, .unset, .unset] [(.long (own_minL xv yv))]))
  refine g_lload X264 hx (hb hby at_28) (v := zv) rfl (q := 30) rfl ?_
  refine g_callS X264 hx hZ hown (hw _ (List.mem_of_getElem? (i := 1) rfl)) (hw _ (List.mem_of_getElem? (i := 2) rfl)) (hw _ (List.mem_of_getElem? (i := 3) rfl)) (hw _ (List.mem_of_getElem? (i := 4) rfl)) (by decide) e264 (rmMinL l Z a0 hw (own_minL xv yv) zv h0) (by exact hml.symm) (argsL := [(.long (own_minL xv yv)), (.long zv)]) (rest := []) rfl rfl pd_2 rfl (Nat.le_of_ble_eq_true rfl) (Nat.le_of_ble_eq_true rfl) (Nat.le_of_ble_eq_true rfl) (Nat.le_of_ble_eq_true rfl) (hb hby at_30) (q := 33) rfl (g_pure rfl rfl fun T265 X265 e265 => ?_)
  show Go p e below _ (T265.setTop (mkF m 33 #[.val (.int a), .val (.int b), .val (.int c0), .val (.int t), .val (.int n), .val (.long xv), .second, .val (.long yv), .second, .val (.long zv), .second, .unset, .unset, .unset, .unset, .unset, .unset, .unset, .unset, .unset, .unset, .unset, .unset] [(.long (own_minL (own_minL xv yv) zv))]))
  refine g_lstore X265 hx (hb hby at_33) (L' := #[.val (.int a), .val (.int b), .val (.int c0), .val (.int t), .val (.int n), .val (.long xv), .second, .val (.long yv), .second, .val (.long zv), .second, .val (.long (own_minL (own_minL xv yv) zv)), .second, .unset, .unset, .unset, .unset, .unset, .unset, .unset, .unset, .unset, .unset]) rfl (q := 35) rfl ?_
  refine g_lload X265 hx (hb hby at_35) (v := xv) rfl (q := 37) rfl ?_
  refine g_lload X265 hx (hb hby at_37) (v := yv) rfl (q := 39) rfl ?_
  refine g_callS X265 hx hZ hown (hw _ (List.mem_of_getElem? (i := 5) rfl)) (hw _ (List.mem_of_getElem? (i := 6) rfl)) (hw _ (List.mem_of_getElem? (i := 3) rfl)) (hw _ (List.mem_of_getElem? (i := 7) rfl)) (by decide) e265 (rmMaxL l Z a0 hw xv yv h0) (by exact hml.symm) (argsL := [(.long xv), (.long yv)]) (rest := []) rfl rfl pd_2 rfl (Nat.le_of_ble_eq_true rfl) (Nat.le_of_ble_eq_true rfl) (Nat.le_of_ble_eq_true rfl) (Nat.le_of_ble_eq_true rfl) (hb hby at_39) (q := 42) rfl (g_pure rfl rfl fun T266 X266 e266 => ?_)
  show Go p e below _ (T266.setTop (mkF m 42 #[.val (.int a), .val (.int b), .val (.int c0), .val (.int t), .val (.int n), .val (.long xv), .second, .val (.long yv), .second, .val (.long zv), .second, .val (.long (own_minL (own_minL xv yv) zv)), .second, .unset, .unset, .unset, .unset, .unset, .unset, .unset, .unset, .unset, .unset] [(.long (own_maxL xv yv))]))
  refine g_lload X266 hx (hb hby at_42) (v := zv) rfl (q := 44) rfl ?_
  refine g_callS X266 hx hZ hown (hw _ (List.mem_of_getElem? (i := 5) rfl)) (hw _ (List.mem_of_getElem? (i := 6) rfl)) (hw _ (List.mem_of_getElem? (i := 3) rfl)) (hw _ (List.mem_of_getElem? (i := 7) rfl)) (by decide) e266 (rmMaxL l Z a0 hw (own_maxL xv yv) zv h0) (by exact hml.symm) (argsL := [(.long (own_maxL xv yv)), (.long zv)]) (rest := []) rfl rfl pd_2 rfl (Nat.le_of_ble_eq_true rfl) (Nat.le_of_ble_eq_true rfl) (Nat.le_of_ble_eq_true rfl) (Nat.le_of_ble_eq_true rfl) (hb hby at_44) (q := 47) rfl (g_pure rfl rfl fun T267 X267 e267 => ?_)
  show Go p e below _ (T267.setTop (mkF m 47 #[.val (.int a), .val (.int b), .val (.int c0), .val (.int t), .val (.int n), .val (.long xv), .second, .val (.long yv), .second, .val (.long zv), .second, .val (.long (own_minL (own_minL xv yv) zv)), .second, .unset, .unset, .unset, .unset, .unset, .unset, .unset, .unset, .unset, .unset] [(.long (own_maxL (own_maxL xv yv) zv))]))
  refine g_lstore X267 hx (hb hby at_47) (L' := #[.val (.int a), .val (.int b), .val (.int c0), .val (.int t), .val (.int n), .val (.long xv), .second, .val (.long yv), .second, .val (.long zv), .second, .val (.long (own_minL (own_minL xv yv) zv)), .second, .val (.long (own_maxL (own_maxL xv yv) zv)), .second, .unset, .unset, .unset, .unset, .unset, .unset, .unset, .unset]) rfl (q := 49) rfl ?_
  refine g_lload X267 hx (hb hby at_49) (v := xv) rfl (q := 51) rfl ?_
  refine g_lload X267 hx (hb hby at_51) (v := yv) rfl (q := 53) rfl ?_
  refine g_ladd X267 hx (hb hby at_53) (z := (xv + yv)) rfl (q := 54) rfl ?_
  refine g_lload X267 hx (hb hby at_54) (v := zv) rfl (q := 56) rfl ?_
  refine g_ladd X267 hx (hb hby at_56) (z := ((xv + yv) + zv)) rfl (q := 57) rfl ?_
  refine g_lload X267 hx (hb hby at_57) (v := (own_minL (own_minL xv yv) zv)) rfl (q := 59) rfl ?_
  refine g_lsub X267 hx (hb hby at_59) (z := (((xv + yv) + zv) - (own_minL (own_minL xv yv) zv))) rfl (q := 60) rfl ?_
  refine g_lload X267 hx (hb hby at_60) (v := (own_maxL (own_maxL xv yv) zv)) rfl (q := 62) rfl ?_
  refine g_lsub X267 hx (hb hby at_62) (z := ((((xv + yv) + zv) - (own_minL (own_minL xv yv) zv)) - (own_maxL (own_maxL xv yv) zv))) rfl (q := 63) rfl ?_
  refine g_lstore X267 hx (hb hby at_63) (L' := #[.val (.int a), .val (.int b), .val (.int c0), .val (.int t), .val (.int n), .val (.long xv), .second, .val (.long yv), .second, .val (.long zv), .second, .val (.long (own_minL (own_minL xv yv) zv)), .second, .val (.long (own_maxL (own_maxL xv yv) zv)), .second, .val (.long ((((xv + yv) + zv) - (own_minL (own_minL xv yv) zv)) - (own_maxL (own_maxL xv yv) zv))), .second, .unset, .unset, .unset, .unset, .unset, .unset]) rfl (q := 65) rfl ?_
  refine g_lload X267 hx (hb hby at_65) (v := (own_minL (own_minL xv yv) zv)) rfl (q := 67) rfl ?_
  refine g_l2i X267 hx (hb hby at_67) (z := p0) hp0 (q := 68) rfl ?_
  refine g_istore X267 hx (hb hby at_68) (L' := #[.val (.int a), .val (.int b), .val (.int c0), .val (.int t), .val (.int n), .val (.long xv), .second, .val (.long yv), .second, .val (.long zv), .second, .val (.long (own_minL (own_minL xv yv) zv)), .second, .val (.long (own_maxL (own_maxL xv yv) zv)), .second, .val (.long ((((xv + yv) + zv) - (own_minL (own_minL xv yv) zv)) - (own_maxL (own_maxL xv yv) zv))), .second, .val (.int p0), .unset, .unset, .unset, .unset, .unset]) rfl (q := 70) rfl ?_
  refine g_lload X267 hx (hb hby at_70) (v := ((((xv + yv) + zv) - (own_minL (own_minL xv yv) zv)) - (own_maxL (own_maxL xv yv) zv))) rfl (q := 72) rfl ?_
  refine g_l2i X267 hx (hb hby at_72) (z := p1) hp1 (q := 73) rfl ?_
  refine g_istore X267 hx (hb hby at_73) (L' := #[.val (.int a), .val (.int b), .val (.int c0), .val (.int t), .val (.int n), .val (.long xv), .second, .val (.long yv), .second, .val (.long zv), .second, .val (.long (own_minL (own_minL xv yv) zv)), .second, .val (.long (own_maxL (own_maxL xv yv) zv)), .second, .val (.long ((((xv + yv) + zv) - (own_minL (own_minL xv yv) zv)) - (own_maxL (own_maxL xv yv) zv))), .second, .val (.int p0), .val (.int p1), .unset, .unset, .unset, .unset]) rfl (q := 75) rfl ?_
  refine g_lload X267 hx (hb hby at_75) (v := (own_maxL (own_maxL xv yv) zv)) rfl (q := 77) rfl ?_
  refine g_l2i X267 hx (hb hby at_77) (z := p2) hp2 (q := 78) rfl ?_
  refine g_istore X267 hx (hb hby at_78) (L' := #[.val (.int a), .val (.int b), .val (.int c0), .val (.int t), .val (.int n), .val (.long xv), .second, .val (.long yv), .second, .val (.long zv), .second, .val (.long (own_minL (own_minL xv yv) zv)), .second, .val (.long (own_maxL (own_maxL xv yv) zv)), .second, .val (.long ((((xv + yv) + zv) - (own_minL (own_minL xv yv) zv)) - (own_maxL (own_maxL xv yv) zv))), .second, .val (.int p0), .val (.int p1), .val (.int p2), .unset, .unset, .unset]) rfl (q := 80) rfl ?_
  refine g_iload X267 hx (hb hby at_80) (v := n) rfl (q := 82) rfl ?_
  refine g_iconst X267 hx (hb hby at_82) (n := (3 : Int32)) (by decide) (q := 83) rfl ?_
  refine g_iand X267 hx (hb hby at_83) (z := (2 : Int32)) hk (q := 84) rfl ?_
  refine g_istore X267 hx (hb hby at_84) (L' := #[.val (.int a), .val (.int b), .val (.int c0), .val (.int t), .val (.int n), .val (.long xv), .second, .val (.long yv), .second, .val (.long zv), .second, .val (.long (own_minL (own_minL xv yv) zv)), .second, .val (.long (own_maxL (own_maxL xv yv) zv)), .second, .val (.long ((((xv + yv) + zv) - (own_minL (own_minL xv yv) zv)) - (own_maxL (own_maxL xv yv) zv))), .second, .val (.int p0), .val (.int p1), .val (.int p2), .val (.int (2 : Int32)), .unset, .unset]) rfl (q := 86) rfl ?_
  refine g_new X267 hx hZ hown (hw _ (List.mem_of_getElem? (i := 8) rfl)) (hw _ (List.mem_of_getElem? (i := 9) rfl)) (hw _ (List.mem_of_getElem? (i := 10) rfl)) e267 (hb hby at_86) (Nat.le_of_ble_eq_true rfl) (Nat.le_of_ble_eq_true rfl) (q := 89) rfl fun T268 h268 bi g268 X268 e268 E268 A268 D268 => ?_
  have ge_bi : n0 ≤ bi := Nat.le_trans Z0 (Nat.le_of_eq g268.symm)
  have z_268 := Nat.le_trans Z0 E268.1
  have F268_entries : Fld Z h268 bi "com/example/newlyn/newlyn/storage/SegmentIndex" "entries" "[J" .null := D268 (Or.inl (hw _ (List.mem_of_getElem? (i := 19) rfl))) (ty := (.array .long)) (by decide)
  have F268_count : Fld Z h268 bi "com/example/newlyn/newlyn/storage/SegmentIndex" "count" "I" (.int (0 : Int32)) := D268 (Or.inl (hw _ (List.mem_of_getElem? (i := 26) rfl))) (ty := .int) (by decide)
  refine g_dup X268 hx (hb hby at_89) rfl (q := 90) rfl ?_
  refine g_callI X268 hx hZ hown rfl (hw _ (List.mem_of_getElem? (i := 11) rfl)) (hw _ (List.mem_of_getElem? (i := 12) rfl)) (hw _ (List.mem_of_getElem? (i := 13) rfl)) (hw _ (List.mem_of_getElem? (i := 10) rfl)) (by decide) e268 (b := bi) (rmC l Z a0 hw bi h268 n0 z_268 ge_bi A268 F268_entries F268_count) (by exact hml.symm) (argsL := []) (rest := [(.ref bi)]) rfl rfl pd_3 rfl (Nat.le_of_ble_eq_true rfl) (Nat.le_of_ble_eq_true rfl) (Nat.le_of_ble_eq_true rfl) (Nat.le_of_ble_eq_true rfl) (hb hby at_90) (q := 93) rfl (fun v269 T269 L269 X269 hQ269 => ?_)
  generalize e269 : T269.heap = h269 at hQ269
  obtain ⟨rfl, M269, K269, A269, ae, g269, B269, C269, V269⟩ := hQ269
  have N269 := Fr.app (Fr.nil n0) M269
  have ne_bi_ae : bi ≠ ae := Nat.ne_of_lt (Nat.lt_of_lt_of_le A268.lt g269)
  have ge_ae : n0 ≤ ae := Nat.le_trans z_268 g269
  have Z269 : n0 ≤ h269.size := Nat.le_trans z_268 K269.1
  show Go p e below _ (T269.setTop (mkF m 93 #[.val (.int a), .val (.int b), .val (.int c0), .val (.int t), .val (.int n), .val (.long xv), .second, .val (.long yv), .second, .val (.long zv), .second, .val (.long (own_minL (own_minL xv yv) zv)), .second, .val (.long (own_maxL (own_maxL xv yv) zv)), .second, .val (.long ((((xv + yv) + zv) - (own_minL (own_minL xv yv) zv)) - (own_maxL (own_maxL xv yv) zv))), .second, .val (.int p0), .val (.int p1), .val (.int p2), .val (.int (2 : Int32)), .unset, .unset] [(.ref bi)]))
  refine g_astore X269 hx (hb hby at_93) rfl (L' := #[.val (.int a), .val (.int b), .val (.int c0), .val (.int t), .val (.int n), .val (.long xv), .second, .val (.long yv), .second, .val (.long zv), .second, .val (.long (own_minL (own_minL xv yv) zv)), .second, .val (.long (own_maxL (own_maxL xv yv) zv)), .second, .val (.long ((((xv + yv) + zv) - (own_minL (own_minL xv yv) zv)) - (own_maxL (own_maxL xv yv) zv))), .second, .val (.int p0), .val (.int p1), .val (.int p2), .val (.int (2 : Int32)), .val (.ref bi), .unset]) rfl (q := 95) rfl ?_
  refine g_iload X269 hx (hb hby at_95) (v := (2 : Int32)) rfl (q := 97) rfl ?_
  refine g_if_le X269 hx (hb hby at_97) (by decide) (q := 109) (by decide) (q2 := 100) rfl (fun hb97 => absurd hb97 (by decide)) (fun hb97 => ?_)
  refine g_aload X269 hx (hb hby at_100) (v := (.ref bi)) rfl rfl (q := 102) rfl ?_
  refine g_iconst X269 hx (hb hby at_102) (n := (0 : Int32)) (by decide) (q := 103) rfl ?_
  refine g_iload X269 hx (hb hby at_103) (v := p0) rfl (q := 105) rfl ?_
  refine g_lconst X269 hx (hb hby at_105) (n := (0 : Int64)) (by decide) (q := 106) rfl ?_
  refine g_callV X269 hx hZ hown (hw _ (List.mem_of_getElem? (i := 48) rfl)) (hw _ (List.mem_of_getElem? (i := 49) rfl)) (hw _ (List.mem_of_getElem? (i := 51) rfl)) (hw _ (List.mem_of_getElem? (i := 50) rfl)) (hw _ (List.mem_of_getElem? (i := 52) rfl)) (hw _ (List.mem_of_getElem? (i := 10) rfl)) (notFace_of_selects (args := #[]) (mvT hZ (hw _ (List.mem_of_getElem? (i := 51) rfl)))) (by decide) e269 A269 (rmA l Z a0 hw bi ae (0 : Int32) p0 (0 : Int64) (0 : Int32) (1 : Int32) (2 : Int32) (0 : Int32) (1 : Int32) (by decide) (by decide) (by decide) (by decide) (by decide) (fun _ => .long (0 : Int64)) h269 n0 (by decide) (by decide) (by decide) (by decide) ge_bi ge_ae ne_bi_ae A269 B269 C269 V269) (by exact hml.symm) (argsL := [(.int (0 : Int32)), (.int p0), (.long (0 : Int64))]) (rest := []) rfl rfl pd_7 rfl (Nat.le_of_ble_eq_true rfl) (Nat.le_of_ble_eq_true rfl) (Nat.le_of_ble_eq_true rfl) (Nat.le_of_ble_eq_true rfl) (hb hby at_106) (q := 109) rfl (fun v270 T270 L270 X270 hQ270 => ?_)
  generalize e270 : T270.heap = h270 at hQ270
  obtain ⟨rfl, M270, K270, A270, B270, C270, V270⟩ := hQ270
  have N270 := Fr.app N269 M270
  have Z270 : n0 ≤ h270.size := Nat.le_trans Z269 K270.1
  show Go p e below _ (T270.setTop (mkF m 109 #[.val (.int a), .val (.int b), .val (.int c0), .val (.int t), .val (.int n), .val (.long xv), .second, .val (.long yv), .second, .val (.long zv), .second, .val (.long (own_minL (own_minL xv yv) zv)), .second, .val (.long (own_maxL (own_maxL xv yv) zv)), .second, .val (.long ((((xv + yv) + zv) - (own_minL (own_minL xv yv) zv)) - (own_maxL (own_maxL xv yv) zv))), .second, .val (.int p0), .val (.int p1), .val (.int p2), .val (.int (2 : Int32)), .val (.ref bi), .unset] []))
  refine g_iload X270 hx (hb hby at_109) (v := (2 : Int32)) rfl (q := 111) rfl ?_
  refine g_iconst X270 hx (hb hby at_111) (n := (1 : Int32)) (by decide) (q := 112) rfl ?_
  refine g_icmp_le X270 hx (hb hby at_112) (by decide) (q := 124) (by decide) (q2 := 115) rfl (fun hb112 => absurd hb112 (by decide)) (fun hb112 => ?_)
  refine g_aload X270 hx (hb hby at_115) (v := (.ref bi)) rfl rfl (q := 117) rfl ?_
  refine g_iconst X270 hx (hb hby at_117) (n := (1 : Int32)) (by decide) (q := 118) rfl ?_
  refine g_iload X270 hx (hb hby at_118) (v := p1) rfl (q := 120) rfl ?_
  refine g_lconst X270 hx (hb hby at_120) (n := (1 : Int64)) (by decide) (q := 121) rfl ?_
  refine g_callV X270 hx hZ hown (hw _ (List.mem_of_getElem? (i := 48) rfl)) (hw _ (List.mem_of_getElem? (i := 49) rfl)) (hw _ (List.mem_of_getElem? (i := 51) rfl)) (hw _ (List.mem_of_getElem? (i := 50) rfl)) (hw _ (List.mem_of_getElem? (i := 52) rfl)) (hw _ (List.mem_of_getElem? (i := 10) rfl)) (notFace_of_selects (args := #[]) (mvT hZ (hw _ (List.mem_of_getElem? (i := 51) rfl)))) (by decide) e270 A270 (rmA l Z a0 hw bi ae (1 : Int32) p1 (1 : Int64) (1 : Int32) (2 : Int32) (4 : Int32) (2 : Int32) (3 : Int32) (by decide) (by decide) (by decide) (by decide) (by decide) (fun i => if i = (1 : Int32).toNatClampNeg then .long (0 : Int64) else if i = (0 : Int32).toNatClampNeg then .long (own_entry (0 : Int32) p0) else (fun _ => .long (0 : Int64)) i) h270 n0 (by decide) (by decide) (by decide) (by decide) ge_bi ge_ae ne_bi_ae A270 B270 C270 V270) (by exact hml.symm) (argsL := [(.int (1 : Int32)), (.int p1), (.long (1 : Int64))]) (rest := []) rfl rfl pd_7 rfl (Nat.le_of_ble_eq_true rfl) (Nat.le_of_ble_eq_true rfl) (Nat.le_of_ble_eq_true rfl) (Nat.le_of_ble_eq_true rfl) (hb hby at_121) (q := 124) rfl (fun v271 T271 L271 X271 hQ271 => ?_)
  generalize e271 : T271.heap = h271 at hQ271
  obtain ⟨rfl, M271, K271, A271, B271, C271, V271⟩ := hQ271
  have N271 := Fr.app N270 M271
  have Z271 : n0 ≤ h271.size := Nat.le_trans Z270 K271.1
  show Go p e below _ (T271.setTop (mkF m 124 #[.val (.int a), .val (.int b), .val (.int c0), .val (.int t), .val (.int n), .val (.long xv), .second, .val (.long yv), .second, .val (.long zv), .second, .val (.long (own_minL (own_minL xv yv) zv)), .second, .val (.long (own_maxL (own_maxL xv yv) zv)), .second, .val (.long ((((xv + yv) + zv) - (own_minL (own_minL xv yv) zv)) - (own_maxL (own_maxL xv yv) zv))), .second, .val (.int p0), .val (.int p1), .val (.int p2), .val (.int (2 : Int32)), .val (.ref bi), .unset] []))
  refine g_iload X271 hx (hb hby at_124) (v := (2 : Int32)) rfl (q := 126) rfl ?_
  refine g_iconst X271 hx (hb hby at_126) (n := (2 : Int32)) (by decide) (q := 127) rfl ?_
  refine g_icmp_le X271 hx (hb hby at_127) (by decide) (q := 141) (by decide) (q2 := 130) rfl (fun hb127 => ?_) (fun hb127 => absurd hb127 (by decide))
  refine g_aload X271 hx (hb hby at_141) (v := (.ref bi)) rfl rfl (q := 143) rfl ?_
  refine g_iloadN X271 hx (hb hby at_143) (v := t) rfl (q := 144) rfl ?_
  have q0 : ((fun i => if i = (3 : Int32).toNatClampNeg then .long (1 : Int64) else if i = (2 : Int32).toNatClampNeg then .long (own_entry (1 : Int32) p1) else (fun i => if i = (1 : Int32).toNatClampNeg then .long (0 : Int64) else if i = (0 : Int32).toNatClampNeg then .long (own_entry (0 : Int32) p0) else (fun _ => .long (0 : Int64)) i) i) : Nat → Value) (0 : Int32).toNatClampNeg = .long (own_entry (0 : Int32) p0) := by rfl
  have r0 := own_entry_pos (0 : Int32) p0 (by decide) g0
  have o0 : own_off (own_entry (0 : Int32) p0) = (0 : Int64) := (own_entry_off (0 : Int32) p0 (by decide) g0).trans (by decide)
  have q1 : ((fun i => if i = (3 : Int32).toNatClampNeg then .long (1 : Int64) else if i = (2 : Int32).toNatClampNeg then .long (own_entry (1 : Int32) p1) else (fun i => if i = (1 : Int32).toNatClampNeg then .long (0 : Int64) else if i = (0 : Int32).toNatClampNeg then .long (own_entry (0 : Int32) p0) else (fun _ => .long (0 : Int64)) i) i) : Nat → Value) (2 : Int32).toNatClampNeg = .long (own_entry (1 : Int32) p1) := by rfl
  have r1 := own_entry_pos (1 : Int32) p1 (by decide) g1
  have o1 : own_off (own_entry (1 : Int32) p1) = (1 : Int64) := (own_entry_off (1 : Int32) p1 (by decide) g1).trans (by decide)
  refine g_callV X271 hx hZ hown (hw _ (List.mem_of_getElem? (i := 20) rfl)) (hw _ (List.mem_of_getElem? (i := 21) rfl)) (hw _ (List.mem_of_getElem? (i := 23) rfl)) (hw _ (List.mem_of_getElem? (i := 22) rfl)) (hw _ (List.mem_of_getElem? (i := 24) rfl)) (hw _ (List.mem_of_getElem? (i := 10) rfl)) (notFace_of_selects (args := #[]) (mvT hZ (hw _ (List.mem_of_getElem? (i := 23) rfl)))) (by decide) e271 A271 (rmT2 l Z a0 hw bi ae t p0 p1 (own_entry (0 : Int32) p0) (own_entry (1 : Int32) p1) (fun i => if i = (3 : Int32).toNatClampNeg then .long (1 : Int64) else if i = (2 : Int32).toNatClampNeg then .long (own_entry (1 : Int32) p1) else (fun i => if i = (1 : Int32).toNatClampNeg then .long (0 : Int64) else if i = (0 : Int32).toNatClampNeg then .long (own_entry (0 : Int32) p0) else (fun _ => .long (0 : Int64)) i) i) h271 n0 ge_bi ne_bi_ae A271 B271 C271 V271 q0 r0 q1 r1) (by exact hml.symm) (argsL := [(.int t)]) (rest := []) rfl rfl pd_4 rfl (Nat.le_of_ble_eq_true rfl) (Nat.le_of_ble_eq_true rfl) (Nat.le_of_ble_eq_true rfl) (Nat.le_of_ble_eq_true rfl) (hb hby at_144) (q := 147) rfl (fun v272 T272 L272 X272 hQ272 => ?_)
  generalize e272 : T272.heap = h272 at hQ272
  obtain ⟨rfl, M272, K272, A272, B272, C272⟩ := hQ272
  have N272 := Fr.app N271 M272
  have Z272 : n0 ≤ h272.size := Nat.le_trans Z271 K272.1
  have V272 := V271.keep K272 (ninS (Ne.symm ne_bi_ae) nin0)
  rw [show own_tr2 t p0 p1 = (0 : Int32) from by rw [own_tr2, if_neg lt1, if_neg lt0]] at C272
  show Go p e below _ (T272.setTop (mkF m 147 #[.val (.int a), .val (.int b), .val (.int c0), .val (.int t), .val (.int n), .val (.long xv), .second, .val (.long yv), .second, .val (.long zv), .second, .val (.long (own_minL (own_minL xv yv) zv)), .second, .val (.long (own_maxL (own_maxL xv yv) zv)), .second, .val (.long ((((xv + yv) + zv) - (own_minL (own_minL xv yv) zv)) - (own_maxL (own_maxL xv yv) zv))), .second, .val (.int p0), .val (.int p1), .val (.int p2), .val (.int (2 : Int32)), .val (.ref bi), .unset] []))
  refine g_iconst X272 hx (hb hby at_147) (n := (0 : Int32)) (by decide) (q := 148) rfl ?_
  refine g_istore X272 hx (hb hby at_148) (L' := #[.val (.int a), .val (.int b), .val (.int c0), .val (.int t), .val (.int n), .val (.long xv), .second, .val (.long yv), .second, .val (.long zv), .second, .val (.long (own_minL (own_minL xv yv) zv)), .second, .val (.long (own_maxL (own_maxL xv yv) zv)), .second, .val (.long ((((xv + yv) + zv) - (own_minL (own_minL xv yv) zv)) - (own_maxL (own_maxL xv yv) zv))), .second, .val (.int p0), .val (.int p1), .val (.int p2), .val (.int (2 : Int32)), .val (.ref bi), .val (.int (0 : Int32))]) rfl (q := 150) rfl ?_
  refine g_iload X272 hx (hb hby at_150) (v := (2 : Int32)) rfl (q := 152) rfl ?_
  refine g_if_le X272 hx (hb hby at_152) (by decide) (q := 164) (by decide) (q2 := 155) rfl (fun hb152 => absurd hb152 (by decide)) (fun hb152 => ?_)
  refine g_iload X272 hx (hb hby at_155) (v := p0) rfl (q := 157) rfl ?_
  refine g_iloadN X272 hx (hb hby at_157) (v := t) rfl (q := 158) rfl ?_
  refine g_icmp_ge X272 hx (hb hby at_158) (by decide) (q := 164) (by decide) (q2 := 161) rfl (fun hb158 => ?_) (fun hb158 => absurd hb158 lt0)
  refine g_iload X272 hx (hb hby at_164) (v := (0 : Int32)) rfl (q := 166) rfl ?_
  refine g_iconst X272 hx (hb hby at_166) (n := (1 : Int32)) (by decide) (q := 167) rfl ?_
  refine g_icmp_ne X272 hx (hb hby at_167) (by decide) (q := 185) (by decide) (q2 := 170) rfl (fun hb167 => ?_) (fun hb167 => absurd hb167 (by decide))
  refine g_iload X272 hx (hb hby at_185) (v := (0 : Int32)) rfl (q := 187) rfl ?_
  refine g_iconst X272 hx (hb hby at_187) (n := (2 : Int32)) (by decide) (q := 188) rfl ?_
  refine g_icmp_ne X272 hx (hb hby at_188) (by decide) (q := 206) (by decide) (q2 := 191) rfl (fun hb188 => ?_) (fun hb188 => absurd hb188 (by decide))
  refine g_aload X272 hx (hb hby at_206) (v := (.ref bi)) rfl rfl (q := 208) rfl ?_
  refine g_lconst X272 hx (hb hby at_208) (n := (0 : Int64)) (by decide) (q := 209) rfl ?_
  refine g_callVH X272 hx hH hown (hw _ (List.mem_of_getElem? (i := 27) rfl)) (hw _ (List.mem_of_getElem? (i := 28) rfl)) (hw _ (List.mem_of_getElem? (i := 30) rfl)) (hw _ (List.mem_of_getElem? (i := 29) rfl)) (hw _ (List.mem_of_getElem? (i := 31) rfl)) (hw _ (List.mem_of_getElem? (i := 10) rfl)) (notFace_of_selects (args := #[]) (mvT hZ (hw _ (List.mem_of_getElem? (i := 30) rfl)))) (by decide) e272 A272 (rmF00 l Z a0 hw bi ae (fun i => if i = (3 : Int32).toNatClampNeg then .long (1 : Int64) else if i = (2 : Int32).toNatClampNeg then .long (own_entry (1 : Int32) p1) else (fun i => if i = (1 : Int32).toNatClampNeg then .long (0 : Int64) else if i = (0 : Int32).toNatClampNeg then .long (own_entry (0 : Int32) p0) else (fun _ => .long (0 : Int64)) i) i) h272 A272 B272 C272 V272) (by exact hml.symm) (argsL := [(.long (0 : Int64))]) (rest := []) rfl rfl pd_5 rfl (Nat.le_of_ble_eq_true rfl) (Nat.le_of_ble_eq_true rfl) (Nat.le_of_ble_eq_true rfl) (Nat.le_of_ble_eq_true rfl) (hb hby at_209) (q := 212) rfl (fun v273 T273 L273 X273 hQ273 => ?_)
  generalize e273 : T273.heap = h273 at hQ273
  obtain ⟨rfl, rfl, E273⟩ := hQ273
  have z_273 := Nat.le_trans Z272 E273.1
  have f274 := (A272.ext E273)
  have f275 := (B272.ext E273)
  have f276 := (C272.ext E273)
  have f277 := (V272.ext E273)
  have N273 := Fr.app N272 (Fr.nil n0)
  show Go p e below _ (T273.setTop (mkF m 212 #[.val (.int a), .val (.int b), .val (.int c0), .val (.int t), .val (.int n), .val (.long xv), .second, .val (.long yv), .second, .val (.long zv), .second, .val (.long (own_minL (own_minL xv yv) zv)), .second, .val (.long (own_maxL (own_maxL xv yv) zv)), .second, .val (.long ((((xv + yv) + zv) - (own_minL (own_minL xv yv) zv)) - (own_maxL (own_maxL xv yv) zv))), .second, .val (.int p0), .val (.int p1), .val (.int p2), .val (.int (2 : Int32)), .val (.ref bi), .val (.int (0 : Int32))] [(.int (0 : Int32))]))
  refine g_iconst X273 hx (hb hby at_212) (n := (0 : Int32)) (by decide) (q := 213) rfl ?_
  refine g_iload X273 hx (hb hby at_213) (v := (0 : Int32)) rfl (q := 215) rfl ?_
  refine g_iload X273 hx (hb hby at_215) (v := p0) rfl (q := 217) rfl ?_
  refine g_iload X273 hx (hb hby at_217) (v := p1) rfl (q := 219) rfl ?_
  refine g_iload X273 hx (hb hby at_219) (v := p2) rfl (q := 221) rfl ?_
  refine g_callS X273 hx hZ hown (hw _ (List.mem_of_getElem? (i := 40) rfl)) (hw _ (List.mem_of_getElem? (i := 41) rfl)) (hw _ (List.mem_of_getElem? (i := 42) rfl)) (hw _ (List.mem_of_getElem? (i := 43) rfl)) (by decide) e273 (rmX l Z a0 hw (0 : Int32) (0 : Int32) p0 p1 p2 (0 : Int32) (own_exp_00 p0 p1 p2) h273) (by exact hml.symm) (argsL := [(.int (0 : Int32)), (.int (0 : Int32)), (.int p0), (.int p1), (.int p2)]) (rest := [(.int (0 : Int32))]) rfl rfl pd_6 rfl (Nat.le_of_ble_eq_true rfl) (Nat.le_of_ble_eq_true rfl) (Nat.le_of_ble_eq_true rfl) (Nat.le_of_ble_eq_true rfl) (hb hby at_221) (q := 224) rfl (g_pure rfl rfl fun T278 X278 e278 => ?_)
  show Go p e below _ (T278.setTop (mkF m 224 #[.val (.int a), .val (.int b), .val (.int c0), .val (.int t), .val (.int n), .val (.long xv), .second, .val (.long yv), .second, .val (.long zv), .second, .val (.long (own_minL (own_minL xv yv) zv)), .second, .val (.long (own_maxL (own_maxL xv yv) zv)), .second, .val (.long ((((xv + yv) + zv) - (own_minL (own_minL xv yv) zv)) - (own_maxL (own_maxL xv yv) zv))), .second, .val (.int p0), .val (.int p1), .val (.int p2), .val (.int (2 : Int32)), .val (.ref bi), .val (.int (0 : Int32))] [(.int (0 : Int32)), (.int (0 : Int32))]))
  refine g_icmp_ne X278 hx (hb hby at_224) (by decide) (q := 275) (by decide) (q2 := 227) rfl (fun hb224 => absurd hb224 (not_not_intro rfl)) (fun hb224 => ?_)
  refine g_aload X278 hx (hb hby at_227) (v := (.ref bi)) rfl rfl (q := 229) rfl ?_
  refine g_lconst X278 hx (hb hby at_229) (n := (1 : Int64)) (by decide) (q := 230) rfl ?_
  refine g_callVH X278 hx hH hown (hw _ (List.mem_of_getElem? (i := 27) rfl)) (hw _ (List.mem_of_getElem? (i := 28) rfl)) (hw _ (List.mem_of_getElem? (i := 30) rfl)) (hw _ (List.mem_of_getElem? (i := 29) rfl)) (hw _ (List.mem_of_getElem? (i := 31) rfl)) (hw _ (List.mem_of_getElem? (i := 10) rfl)) (notFace_of_selects (args := #[]) (mvT hZ (hw _ (List.mem_of_getElem? (i := 30) rfl)))) (by decide) e278 f274 (rmF01 l Z a0 hw bi ae (fun i => if i = (3 : Int32).toNatClampNeg then .long (1 : Int64) else if i = (2 : Int32).toNatClampNeg then .long (own_entry (1 : Int32) p1) else (fun i => if i = (1 : Int32).toNatClampNeg then .long (0 : Int64) else if i = (0 : Int32).toNatClampNeg then .long (own_entry (0 : Int32) p0) else (fun _ => .long (0 : Int64)) i) i) h273 f274 f275 f276 f277) (by exact hml.symm) (argsL := [(.long (1 : Int64))]) (rest := []) rfl rfl pd_5 rfl (Nat.le_of_ble_eq_true rfl) (Nat.le_of_ble_eq_true rfl) (Nat.le_of_ble_eq_true rfl) (Nat.le_of_ble_eq_true rfl) (hb hby at_230) (q := 233) rfl (fun v279 T279 L279 X279 hQ279 => ?_)
  generalize e279 : T279.heap = h279 at hQ279
  obtain ⟨rfl, rfl, E279⟩ := hQ279
  have z_279 := Nat.le_trans z_273 E279.1
  have f280 := (f274.ext E279)
  have f281 := (f275.ext E279)
  have f282 := (f276.ext E279)
  have f283 := (f277.ext E279)
  have N279 := Fr.app N273 (Fr.nil n0)
  show Go p e below _ (T279.setTop (mkF m 233 #[.val (.int a), .val (.int b), .val (.int c0), .val (.int t), .val (.int n), .val (.long xv), .second, .val (.long yv), .second, .val (.long zv), .second, .val (.long (own_minL (own_minL xv yv) zv)), .second, .val (.long (own_maxL (own_maxL xv yv) zv)), .second, .val (.long ((((xv + yv) + zv) - (own_minL (own_minL xv yv) zv)) - (own_maxL (own_maxL xv yv) zv))), .second, .val (.int p0), .val (.int p1), .val (.int p2), .val (.int (2 : Int32)), .val (.ref bi), .val (.int (0 : Int32))] [(.int (0 : Int32))]))
  refine g_iconst X279 hx (hb hby at_233) (n := (1 : Int32)) (by decide) (q := 234) rfl ?_
  refine g_iload X279 hx (hb hby at_234) (v := (0 : Int32)) rfl (q := 236) rfl ?_
  refine g_iload X279 hx (hb hby at_236) (v := p0) rfl (q := 238) rfl ?_
  refine g_iload X279 hx (hb hby at_238) (v := p1) rfl (q := 240) rfl ?_
  refine g_iload X279 hx (hb hby at_240) (v := p2) rfl (q := 242) rfl ?_
  refine g_callS X279 hx hZ hown (hw _ (List.mem_of_getElem? (i := 40) rfl)) (hw _ (List.mem_of_getElem? (i := 41) rfl)) (hw _ (List.mem_of_getElem? (i := 42) rfl)) (hw _ (List.mem_of_getElem? (i := 43) rfl)) (by decide) e279 (rmX l Z a0 hw (1 : Int32) (0 : Int32) p0 p1 p2 (0 : Int32) (own_exp_10 p0 p1 p2) h279) (by exact hml.symm) (argsL := [(.int (1 : Int32)), (.int (0 : Int32)), (.int p0), (.int p1), (.int p2)]) (rest := [(.int (0 : Int32))]) rfl rfl pd_6 rfl (Nat.le_of_ble_eq_true rfl) (Nat.le_of_ble_eq_true rfl) (Nat.le_of_ble_eq_true rfl) (Nat.le_of_ble_eq_true rfl) (hb hby at_242) (q := 245) rfl (g_pure rfl rfl fun T284 X284 e284 => ?_)
  show Go p e below _ (T284.setTop (mkF m 245 #[.val (.int a), .val (.int b), .val (.int c0), .val (.int t), .val (.int n), .val (.long xv), .second, .val (.long yv), .second, .val (.long zv), .second, .val (.long (own_minL (own_minL xv yv) zv)), .second, .val (.long (own_maxL (own_maxL xv yv) zv)), .second, .val (.long ((((xv + yv) + zv) - (own_minL (own_minL xv yv) zv)) - (own_maxL (own_maxL xv yv) zv))), .second, .val (.int p0), .val (.int p1), .val (.int p2), .val (.int (2 : Int32)), .val (.ref bi), .val (.int (0 : Int32))] [(.int (0 : Int32)), (.int (0 : Int32))]))
  refine g_icmp_ne X284 hx (hb hby at_245) (by decide) (q := 275) (by decide) (q2 := 248) rfl (fun hb245 => absurd hb245 (not_not_intro rfl)) (fun hb245 => ?_)
  refine g_aload X284 hx (hb hby at_248) (v := (.ref bi)) rfl rfl (q := 250) rfl ?_
  refine g_ldcJ X284 hx hZ hown (hw _ (List.mem_of_getElem? (i := 47) rfl)) (hb hby at_250) (q := 253) rfl ?_
  refine g_callVH X284 hx hH hown (hw _ (List.mem_of_getElem? (i := 27) rfl)) (hw _ (List.mem_of_getElem? (i := 28) rfl)) (hw _ (List.mem_of_getElem? (i := 30) rfl)) (hw _ (List.mem_of_getElem? (i := 29) rfl)) (hw _ (List.mem_of_getElem? (i := 31) rfl)) (hw _ (List.mem_of_getElem? (i := 10) rfl)) (notFace_of_selects (args := #[]) (mvT hZ (hw _ (List.mem_of_getElem? (i := 30) rfl)))) (by decide) e284 f280 (rmF02 l Z a0 hw bi ae (fun i => if i = (3 : Int32).toNatClampNeg then .long (1 : Int64) else if i = (2 : Int32).toNatClampNeg then .long (own_entry (1 : Int32) p1) else (fun i => if i = (1 : Int32).toNatClampNeg then .long (0 : Int64) else if i = (0 : Int32).toNatClampNeg then .long (own_entry (0 : Int32) p0) else (fun _ => .long (0 : Int64)) i) i) h279 f280 f281 f282 f283) (by exact hml.symm) (argsL := [(.long (2 : Int64))]) (rest := []) rfl rfl pd_5 rfl (Nat.le_of_ble_eq_true rfl) (Nat.le_of_ble_eq_true rfl) (Nat.le_of_ble_eq_true rfl) (Nat.le_of_ble_eq_true rfl) (hb hby at_253) (q := 256) rfl (fun v285 T285 L285 X285 hQ285 => ?_)
  generalize e285 : T285.heap = h285 at hQ285
  obtain ⟨rfl, rfl, E285⟩ := hQ285
  have z_285 := Nat.le_trans z_279 E285.1
  have f286 := (f280.ext E285)
  have f287 := (f281.ext E285)
  have f288 := (f282.ext E285)
  have f289 := (f283.ext E285)
  have N285 := Fr.app N279 (Fr.nil n0)
  show Go p e below _ (T285.setTop (mkF m 256 #[.val (.int a), .val (.int b), .val (.int c0), .val (.int t), .val (.int n), .val (.long xv), .second, .val (.long yv), .second, .val (.long zv), .second, .val (.long (own_minL (own_minL xv yv) zv)), .second, .val (.long (own_maxL (own_maxL xv yv) zv)), .second, .val (.long ((((xv + yv) + zv) - (own_minL (own_minL xv yv) zv)) - (own_maxL (own_maxL xv yv) zv))), .second, .val (.int p0), .val (.int p1), .val (.int p2), .val (.int (2 : Int32)), .val (.ref bi), .val (.int (0 : Int32))] [(.int (0 : Int32))]))
  refine g_iconst X285 hx (hb hby at_256) (n := (2 : Int32)) (by decide) (q := 257) rfl ?_
  refine g_iload X285 hx (hb hby at_257) (v := (0 : Int32)) rfl (q := 259) rfl ?_
  refine g_iload X285 hx (hb hby at_259) (v := p0) rfl (q := 261) rfl ?_
  refine g_iload X285 hx (hb hby at_261) (v := p1) rfl (q := 263) rfl ?_
  refine g_iload X285 hx (hb hby at_263) (v := p2) rfl (q := 265) rfl ?_
  refine g_callS X285 hx hZ hown (hw _ (List.mem_of_getElem? (i := 40) rfl)) (hw _ (List.mem_of_getElem? (i := 41) rfl)) (hw _ (List.mem_of_getElem? (i := 42) rfl)) (hw _ (List.mem_of_getElem? (i := 43) rfl)) (by decide) e285 (rmX l Z a0 hw (2 : Int32) (0 : Int32) p0 p1 p2 (0 : Int32) (own_exp_20 p0 p1 p2) h285) (by exact hml.symm) (argsL := [(.int (2 : Int32)), (.int (0 : Int32)), (.int p0), (.int p1), (.int p2)]) (rest := [(.int (0 : Int32))]) rfl rfl pd_6 rfl (Nat.le_of_ble_eq_true rfl) (Nat.le_of_ble_eq_true rfl) (Nat.le_of_ble_eq_true rfl) (Nat.le_of_ble_eq_true rfl) (hb hby at_265) (q := 268) rfl (g_pure rfl rfl fun T290 X290 e290 => ?_)
  show Go p e below _ (T290.setTop (mkF m 268 #[.val (.int a), .val (.int b), .val (.int c0), .val (.int t), .val (.int n), .val (.long xv), .second, .val (.long yv), .second, .val (.long zv), .second, .val (.long (own_minL (own_minL xv yv) zv)), .second, .val (.long (own_maxL (own_maxL xv yv) zv)), .second, .val (.long ((((xv + yv) + zv) - (own_minL (own_minL xv yv) zv)) - (own_maxL (own_maxL xv yv) zv))), .second, .val (.int p0), .val (.int p1), .val (.int p2), .val (.int (2 : Int32)), .val (.ref bi), .val (.int (0 : Int32))] [(.int (0 : Int32)), (.int (0 : Int32))]))
  refine g_icmp_ne X290 hx (hb hby at_268) (by decide) (q := 275) (by decide) (q2 := 271) rfl (fun hb268 => absurd hb268 (not_not_intro rfl)) (fun hb268 => ?_)
  refine g_iconst X290 hx (hb hby at_271) (n := (1 : Int32)) (by decide) (q := 272) rfl ?_
  refine g_goto X290 hx (hb hby at_272) (by decide) (q := 276) (by decide) ?_
  exact g_retB X290 hx hret hlk (hb hby at_276) (by decide) ⟨rfl, by simpa using N285⟩ (Nat.le_of_ble_eq_true rfl) (Nat.le_of_ble_eq_true rfl)
set_option maxRecDepth 65536 in
set_option maxHeartbeats 40000000 in
theorem law21 (l : Launch) (Z : State) (a0 : Array Value) (hw : ∀ d ∈ tables_1, d.before a0 Z = true) (a b c0 t n : Int32) (xv yv zv : Int64) (p0 p1 p2 : Int32) (h0 : Heap) (n0 : Nat) (Z0 : n0 ≤ h0.size) (hx1 : (a &&& (2147483647 : Int32)).toInt64 = xv) (hy1 : (b &&& (2147483647 : Int32)).toInt64 = yv) (hz1 : (c0 &&& (2147483647 : Int32)).toInt64 = zv) (hp0 : (own_minL (own_minL xv yv) zv).toInt32 = p0) (hp1 : ((((xv + yv) + zv) - (own_minL (own_minL xv yv) zv)) - (own_maxL (own_maxL xv yv) zv)).toInt32 = p1) (hp2 : (own_maxL (own_maxL xv yv) zv).toInt32 = p2) (g0 : ¬ p0 < 0) (g1 : ¬ p1 < 0) (g2 : ¬ p2 < 0) (hk : n &&& (3 : Int32) = 2) (lt0 : p0 < t) (lt1 : ¬ p1 < t) :
    ConH l Z h0 x code maxLocals ret room_1 #[(.int a), (.int b), (.int c0), (.int t), (.int n)] (fun v h L => v = some (.int 1) ∧ Fr n0 L) := by
  refine con_ofH (plainFor_of_name pn_0) (Ls := #[.val (.int a), .val (.int b), .val (.int c0), .val (.int t), .val (.int n), .unset, .unset, .unset, .unset, .unset, .unset, .unset, .unset, .unset, .unset, .unset, .unset, .unset, .unset, .unset, .unset, .unset, .unset]) (fun m => by first | (simp [entryFrame, mkF, argsToLocals, Value.category, maxLocals]; done) | rfl) ?_
  intro p e s m below meth c s₁ hx hH hby hml hret hlk hnm hown hnamed X0 e0
  have hZ := hH.wide
  refine g_iloadN X0 hx (hb hby at_0) (v := a) rfl (q := 1) rfl ?_
  refine g_ldcI X0 hx hZ hown (hw _ (List.mem_of_getElem? (i := 0) rfl)) (hb hby at_1) (q := 3) rfl ?_
  refine g_iand X0 hx (hb hby at_3) (z := (a &&& (2147483647 : Int32))) rfl (q := 4) rfl ?_
  refine g_i2l X0 hx (hb hby at_4) (z := xv) hx1 (q := 5) rfl ?_
  refine g_lstore X0 hx (hb hby at_5) (L' := #[.val (.int a), .val (.int b), .val (.int c0), .val (.int t), .val (.int n), .val (.long xv), .second, .unset, .unset, .unset, .unset, .unset, .unset, .unset, .unset, .unset, .unset, .unset, .unset, .unset, .unset, .unset, .unset]) rfl (q := 7) rfl ?_
  refine g_iloadN X0 hx (hb hby at_7) (v := b) rfl (q := 8) rfl ?_
  refine g_ldcI X0 hx hZ hown (hw _ (List.mem_of_getElem? (i := 0) rfl)) (hb hby at_8) (q := 10) rfl ?_
  refine g_iand X0 hx (hb hby at_10) (z := (b &&& (2147483647 : Int32))) rfl (q := 11) rfl ?_
  refine g_i2l X0 hx (hb hby at_11) (z := yv) hy1 (q := 12) rfl ?_
  refine g_lstore X0 hx (hb hby at_12) (L' := #[.val (.int a), .val (.int b), .val (.int c0), .val (.int t), .val (.int n), .val (.long xv), .second, .val (.long yv), .second, .unset, .unset, .unset, .unset, .unset, .unset, .unset, .unset, .unset, .unset, .unset, .unset, .unset, .unset]) rfl (q := 14) rfl ?_
  refine g_iloadN X0 hx (hb hby at_14) (v := c0) rfl (q := 15) rfl ?_
  refine g_ldcI X0 hx hZ hown (hw _ (List.mem_of_getElem? (i := 0) rfl)) (hb hby at_15) (q := 17) rfl ?_
  refine g_iand X0 hx (hb hby at_17) (z := (c0 &&& (2147483647 : Int32))) rfl (q := 18) rfl ?_
  refine g_i2l X0 hx (hb hby at_18) (z := zv) hz1 (q := 19) rfl ?_
  refine g_lstore X0 hx (hb hby at_19) (L' := #[.val (.int a), .val (.int b), .val (.int c0), .val (.int t), .val (.int n), .val (.long xv), .second, .val (.long yv), .second, .val (.long zv), .second, .unset, .unset, .unset, .unset, .unset, .unset, .unset, .unset, .unset, .unset, .unset, .unset]) rfl (q := 21) rfl ?_
  refine g_lload X0 hx (hb hby at_21) (v := xv) rfl (q := 23) rfl ?_
  refine g_lload X0 hx (hb hby at_23) (v := yv) rfl (q := 25) rfl ?_
  refine g_callS X0 hx hZ hown (hw _ (List.mem_of_getElem? (i := 1) rfl)) (hw _ (List.mem_of_getElem? (i := 2) rfl)) (hw _ (List.mem_of_getElem? (i := 3) rfl)) (hw _ (List.mem_of_getElem? (i := 4) rfl)) (by decide) e0 (rmMinL l Z a0 hw xv yv h0) (by exact hml.symm) (argsL := [(.long xv), (.long yv)]) (rest := []) rfl rfl pd_2 rfl (Nat.le_of_ble_eq_true rfl) (Nat.le_of_ble_eq_true rfl) (Nat.le_of_ble_eq_true rfl) (Nat.le_of_ble_eq_true rfl) (hb hby at_25) (q := 28) rfl (g_pure rfl rfl fun T291 X291 e291 => ?_)
  show Go p e below _ (T291.setTop (mkF m 28 #[.val (.int a), .val (.int b), .val (.int c0), .val (.int t), .val (.int n), .val (.long xv), .second, .val (.long yv), .second, .val (.long zv), .second, .unset, .unset, .unset, .unset, .unset, .unset, .unset, .unset, .unset, .unset, .unset, .unset] [(.long (own_minL xv yv))]))
  refine g_lload X291 hx (hb hby at_28) (v := zv) rfl (q := 30) rfl ?_
  refine g_callS X291 hx hZ hown (hw _ (List.mem_of_getElem? (i := 1) rfl)) (hw _ (List.mem_of_getElem? (i := 2) rfl)) (hw _ (List.mem_of_getElem? (i := 3) rfl)) (hw _ (List.mem_of_getElem? (i := 4) rfl)) (by decide) e291 (rmMinL l Z a0 hw (own_minL xv yv) zv h0) (by exact hml.symm) (argsL := [(.long (own_minL xv yv)), (.long zv)]) (rest := []) rfl rfl pd_2 rfl (Nat.le_of_ble_eq_true rfl) (Nat.le_of_ble_eq_true rfl) (Nat.le_of_ble_eq_true rfl) (Nat.le_of_ble_eq_true rfl) (hb hby at_30) (q := 33) rfl (g_pure rfl rfl fun T292 X292 e292 => ?_)
  show Go p e below _ (T292.setTop (mkF m 33 #[.val (.int a), .val (.int b), .val (.int c0), .val (.int t), .val (.int n), .val (.long xv), .second, .val (.long yv), .second, .val (.long zv), .second, .unset, .unset, .unset, .unset, .unset, .unset, .unset, .unset, .unset, .unset, .unset, .unset] [(.long (own_minL (own_minL xv yv) zv))]))
  refine g_lstore X292 hx (hb hby at_33) (L' := #[.val (.int a), .val (.int b), .val (.int c0), .val (.int t), .val (.int n), .val (.long xv), .second, .val (.long yv), .second, .val (.long zv), .second, .val (.long (own_minL (own_minL xv yv) zv)), .second, .unset, .unset, .unset, .unset, .unset, .unset, .unset, .unset, .unset, .unset]) rfl (q := 35) rfl ?_
  refine g_lload X292 hx (hb hby at_35) (v := xv) rfl (q := 37) rfl ?_
  refine g_lload X292 hx (hb hby at_37) (v := yv) rfl (q := 39) rfl ?_
  refine g_callS X292 hx hZ hown (hw _ (List.mem_of_getElem? (i := 5) rfl)) (hw _ (List.mem_of_getElem? (i := 6) rfl)) (hw _ (List.mem_of_getElem? (i := 3) rfl)) (hw _ (List.mem_of_getElem? (i := 7) rfl)) (by decide) e292 (rmMaxL l Z a0 hw xv yv h0) (by exact hml.symm) (argsL := [(.long xv), (.long yv)]) (rest := []) rfl rfl pd_2 rfl (Nat.le_of_ble_eq_true rfl) (Nat.le_of_ble_eq_true rfl) (Nat.le_of_ble_eq_true rfl) (Nat.le_of_ble_eq_true rfl) (hb hby at_39) (q := 42) rfl (g_pure rfl rfl fun T293 X293 e293 => ?_)
  show Go p e below _ (T293.setTop (mkF m 42 #[.val (.int a), .val (.int b), .val (.int c0), .val (.int t), .val (.int n), .val (.long xv), .second, .val (.long yv), .second, .val (.long zv), .second, .val (.long (own_minL (own_minL xv yv) zv)), .second, .unset, .unset, .unset, .unset, .unset, .unset, .unset, .unset, .unset, .unset] [(.long (own_maxL xv yv))]))
  refine g_lload X293 hx (hb hby at_42) (v := zv) rfl (q := 44) rfl ?_
  refine g_callS X293 hx hZ hown (hw _ (List.mem_of_getElem? (i := 5) rfl)) (hw _ (List.mem_of_getElem? (i := 6) rfl)) (hw _ (List.mem_of_getElem? (i := 3) rfl)) (hw _ (List.mem_of_getElem? (i := 7) rfl)) (by decide) e293 (rmMaxL l Z a0 hw (own_maxL xv yv) zv h0) (by exact hml.symm) (argsL := [(.long (own_maxL xv yv)), (.long zv)]) (rest := []) rfl rfl pd_2 rfl (Nat.le_of_ble_eq_true rfl) (Nat.le_of_ble_eq_true rfl) (Nat.le_of_ble_eq_true rfl) (Nat.le_of_ble_eq_true rfl) (hb hby at_44) (q := 47) rfl (g_pure rfl rfl fun T294 X294 e294 => ?_)
  show Go p e below _ (T294.setTop (mkF m 47 #[.val (.int a), .val (.int b), .val (.int c0), .val (.int t), .val (.int n), .val (.long xv), .second, .val (.long yv), .second, .val (.long zv), .second, .val (.long (own_minL (own_minL xv yv) zv)), .second, .unset, .unset, .unset, .unset, .unset, .unset, .unset, .unset, .unset, .unset] [(.long (own_maxL (own_maxL xv yv) zv))]))
  refine g_lstore X294 hx (hb hby at_47) (L' := #[.val (.int a), .val (.int b), .val (.int c0), .val (.int t), .val (.int n), .val (.long xv), .second, .val (.long yv), .second, .val (.long zv), .second, .val (.long (own_minL (own_minL xv yv) zv)), .second, .val (.long (own_maxL (own_maxL xv yv) zv)), .second, .unset, .unset, .unset, .unset, .unset, .unset, .unset, .unset]) rfl (q := 49) rfl ?_
  refine g_lload X294 hx (hb hby at_49) (v := xv) rfl (q := 51) rfl ?_
  refine g_lload X294 hx (hb hby at_51) (v := yv) rfl (q := 53) rfl ?_
  refine g_ladd X294 hx (hb hby at_53) (z := (xv + yv)) rfl (q := 54) rfl ?_
  refine g_lload X294 hx (hb hby at_54) (v := zv) rfl (q := 56) rfl ?_
  refine g_ladd X294 hx (hb hby at_56) (z := ((xv + yv) + zv)) rfl (q := 57) rfl ?_
  refine g_lload X294 hx (hb hby at_57) (v := (own_minL (own_minL xv yv) zv)) rfl (q := 59) rfl ?_
  refine g_lsub X294 hx (hb hby at_59) (z := (((xv + yv) + zv) - (own_minL (own_minL xv yv) zv))) rfl (q := 60) rfl ?_
  refine g_lload X294 hx (hb hby at_60) (v := (own_maxL (own_maxL xv yv) zv)) rfl (q := 62) rfl ?_
  refine g_lsub X294 hx (hb hby at_62) (z := ((((xv + yv) + zv) - (own_minL (own_minL xv yv) zv)) - (own_maxL (own_maxL xv yv) zv))) rfl (q := 63) rfl ?_
  refine g_lstore X294 hx (hb hby at_63) (L' := #[.val (.int a), .val (.int b), .val (.int c0), .val (.int t), .val (.int n), .val (.long xv), .second, .val (.long yv), .second, .val (.long zv), .second, .val (.long (own_minL (own_minL xv yv) zv)), .second, .val (.long (own_maxL (own_maxL xv yv) zv)), .second, .val (.long ((((xv + yv) + zv) - (own_minL (own_minL xv yv) zv)) - (own_maxL (own_maxL xv yv) zv))), .second, .unset, .unset, .unset, .unset, .unset, .unset]) rfl (q := 65) rfl ?_
  refine g_lload X294 hx (hb hby at_65) (v := (own_minL (own_minL xv yv) zv)) rfl (q := 67) rfl ?_
  refine g_l2i X294 hx (hb hby at_67) (z := p0) hp0 (q := 68) rfl ?_
  refine g_istore X294 hx (hb hby at_68) (L' := #[.val (.int a), .val (.int b), .val (.int c0), .val (.int t), .val (.int n), .val (.long xv), .second, .val (.long yv), .second, .val (.long zv), .second, .val (.long (own_minL (own_minL xv yv) zv)), .second, .val (.long (own_maxL (own_maxL xv yv) zv)), .second, .val (.long ((((xv + yv) + zv) - (own_minL (own_minL xv yv) zv)) - (own_maxL (own_maxL xv yv) zv))), .second, .val (.int p0), .unset, .unset, .unset, .unset, .unset]) rfl (q := 70) rfl ?_
  refine g_lload X294 hx (hb hby at_70) (v := ((((xv + yv) + zv) - (own_minL (own_minL xv yv) zv)) - (own_maxL (own_maxL xv yv) zv))) rfl (q := 72) rfl ?_
  refine g_l2i X294 hx (hb hby at_72) (z := p1) hp1 (q := 73) rfl ?_
  refine g_istore X294 hx (hb hby at_73) (L' := #[.val (.int a), .val (.int b), .val (.int c0), .val (.int t), .val (.int n), .val (.long xv), .second, .val (.long yv), .second, .val (.long zv), .second, .val (.long (own_minL (own_minL xv yv) zv)), .second, .val (.long (own_maxL (own_maxL xv yv) zv)), .second, .val (.long ((((xv + yv) + zv) - (own_minL (own_minL xv yv) zv)) - (own_maxL (own_maxL xv yv) zv))), .second, .val (.int p0), .val (.int p1), .unset, .unset, .unset, .unset]) rfl (q := 75) rfl ?_
  refine g_lload X294 hx (hb hby at_75) (v := (own_maxL (own_maxL xv yv) zv)) rfl (q := 77) rfl ?_
  refine g_l2i X294 hx (hb hby at_77) (z := p2) hp2 (q := 78) rfl ?_
  refine g_istore X294 hx (hb hby at_78) (L' := #[.val (.int a), .val (.int b), .val (.int c0), .val (.int t), .val (.int n), .val (.long xv), .second, .val (.long yv), .second, .val (.long zv), .second, .val (.long (own_minL (own_minL xv yv) zv)), .second, .val (.long (own_maxL (own_maxL xv yv) zv)), .second, .val (.long ((((xv + yv) + zv) - (own_minL (own_minL xv yv) zv)) - (own_maxL (own_maxL xv yv) zv))), .second, .val (.int p0), .val (.int p1), .val (.int p2), .unset, .unset, .unset]) rfl (q := 80) rfl ?_
  refine g_iload X294 hx (hb hby at_80) (v := n) rfl (q := 82) rfl ?_
  refine g_iconst X294 hx (hb hby at_82) (n := (3 : Int32)) (by decide) (q := 83) rfl ?_
  refine g_iand X294 hx (hb hby at_83) (z := (2 : Int32)) hk (q := 84) rfl ?_
  refine g_istore X294 hx (hb hby at_84) (L' := #[.val (.int a), .val (.int b), .val (.int c0), .val (.int t), .val (.int n), .val (.long xv), .second, .val (.long yv), .second, .val (.long zv), .second, .val (.long (own_minL (own_minL xv yv) zv)), .second, .val (.long (own_maxL (own_maxL xv yv) zv)), .second, .val (.long ((((xv + yv) + zv) - (own_minL (own_minL xv yv) zv)) - (own_maxL (own_maxL xv yv) zv))), .second, .val (.int p0), .val (.int p1), .val (.int p2), .val (.int (2 : Int32)), .unset, .unset]) rfl (q := 86) rfl ?_
  refine g_new X294 hx hZ hown (hw _ (List.mem_of_getElem? (i := 8) rfl)) (hw _ (List.mem_of_getElem? (i := 9) rfl)) (hw _ (List.mem_of_getElem? (i := 10) rfl)) e294 (hb hby at_86) (Nat.le_of_ble_eq_true rfl) (Nat.le_of_ble_eq_true rfl) (q := 89) rfl fun T295 h295 bi g295 X295 e295 E295 A295 D295 => ?_
  have ge_bi : n0 ≤ bi := Nat.le_trans Z0 (Nat.le_of_eq g295.symm)
  have z_295 := Nat.le_trans Z0 E295.1
  have F295_entries : Fld Z h295 bi "com/example/newlyn/newlyn/storage/SegmentIndex" "entries" "[J" .null := D295 (Or.inl (hw _ (List.mem_of_getElem? (i := 19) rfl))) (ty := (.array .long)) (by decide)
  have F295_count : Fld Z h295 bi "com/example/newlyn/newlyn/storage/SegmentIndex" "count" "I" (.int (0 : Int32)) := D295 (Or.inl (hw _ (List.mem_of_getElem? (i := 26) rfl))) (ty := .int) (by decide)
  refine g_dup X295 hx (hb hby at_89) rfl (q := 90) rfl ?_
  refine g_callI X295 hx hZ hown rfl (hw _ (List.mem_of_getElem? (i := 11) rfl)) (hw _ (List.mem_of_getElem? (i := 12) rfl)) (hw _ (List.mem_of_getElem? (i := 13) rfl)) (hw _ (List.mem_of_getElem? (i := 10) rfl)) (by decide) e295 (b := bi) (rmC l Z a0 hw bi h295 n0 z_295 ge_bi A295 F295_entries F295_count) (by exact hml.symm) (argsL := []) (rest := [(.ref bi)]) rfl rfl pd_3 rfl (Nat.le_of_ble_eq_true rfl) (Nat.le_of_ble_eq_true rfl) (Nat.le_of_ble_eq_true rfl) (Nat.le_of_ble_eq_true rfl) (hb hby at_90) (q := 93) rfl (fun v296 T296 L296 X296 hQ296 => ?_)
  generalize e296 : T296.heap = h296 at hQ296
  obtain ⟨rfl, M296, K296, A296, ae, g296, B296, C296, V296⟩ := hQ296
  have N296 := Fr.app (Fr.nil n0) M296
  have ne_bi_ae : bi ≠ ae := Nat.ne_of_lt (Nat.lt_of_lt_of_le A295.lt g296)
  have ge_ae : n0 ≤ ae := Nat.le_trans z_295 g296
  have Z296 : n0 ≤ h296.size := Nat.le_trans z_295 K296.1
  show Go p e below _ (T296.setTop (mkF m 93 #[.val (.int a), .val (.int b), .val (.int c0), .val (.int t), .val (.int n), .val (.long xv), .second, .val (.long yv), .second, .val (.long zv), .second, .val (.long (own_minL (own_minL xv yv) zv)), .second, .val (.long (own_maxL (own_maxL xv yv) zv)), .second, .val (.long ((((xv + yv) + zv) - (own_minL (own_minL xv yv) zv)) - (own_maxL (own_maxL xv yv) zv))), .second, .val (.int p0), .val (.int p1), .val (.int p2), .val (.int (2 : Int32)), .unset, .unset] [(.ref bi)]))
  refine g_astore X296 hx (hb hby at_93) rfl (L' := #[.val (.int a), .val (.int b), .val (.int c0), .val (.int t), .val (.int n), .val (.long xv), .second, .val (.long yv), .second, .val (.long zv), .second, .val (.long (own_minL (own_minL xv yv) zv)), .second, .val (.long (own_maxL (own_maxL xv yv) zv)), .second, .val (.long ((((xv + yv) + zv) - (own_minL (own_minL xv yv) zv)) - (own_maxL (own_maxL xv yv) zv))), .second, .val (.int p0), .val (.int p1), .val (.int p2), .val (.int (2 : Int32)), .val (.ref bi), .unset]) rfl (q := 95) rfl ?_
  refine g_iload X296 hx (hb hby at_95) (v := (2 : Int32)) rfl (q := 97) rfl ?_
  refine g_if_le X296 hx (hb hby at_97) (by decide) (q := 109) (by decide) (q2 := 100) rfl (fun hb97 => absurd hb97 (by decide)) (fun hb97 => ?_)
  refine g_aload X296 hx (hb hby at_100) (v := (.ref bi)) rfl rfl (q := 102) rfl ?_
  refine g_iconst X296 hx (hb hby at_102) (n := (0 : Int32)) (by decide) (q := 103) rfl ?_
  refine g_iload X296 hx (hb hby at_103) (v := p0) rfl (q := 105) rfl ?_
  refine g_lconst X296 hx (hb hby at_105) (n := (0 : Int64)) (by decide) (q := 106) rfl ?_
  refine g_callV X296 hx hZ hown (hw _ (List.mem_of_getElem? (i := 48) rfl)) (hw _ (List.mem_of_getElem? (i := 49) rfl)) (hw _ (List.mem_of_getElem? (i := 51) rfl)) (hw _ (List.mem_of_getElem? (i := 50) rfl)) (hw _ (List.mem_of_getElem? (i := 52) rfl)) (hw _ (List.mem_of_getElem? (i := 10) rfl)) (notFace_of_selects (args := #[]) (mvT hZ (hw _ (List.mem_of_getElem? (i := 51) rfl)))) (by decide) e296 A296 (rmA l Z a0 hw bi ae (0 : Int32) p0 (0 : Int64) (0 : Int32) (1 : Int32) (2 : Int32) (0 : Int32) (1 : Int32) (by decide) (by decide) (by decide) (by decide) (by decide) (fun _ => .long (0 : Int64)) h296 n0 (by decide) (by decide) (by decide) (by decide) ge_bi ge_ae ne_bi_ae A296 B296 C296 V296) (by exact hml.symm) (argsL := [(.int (0 : Int32)), (.int p0), (.long (0 : Int64))]) (rest := []) rfl rfl pd_7 rfl (Nat.le_of_ble_eq_true rfl) (Nat.le_of_ble_eq_true rfl) (Nat.le_of_ble_eq_true rfl) (Nat.le_of_ble_eq_true rfl) (hb hby at_106) (q := 109) rfl (fun v297 T297 L297 X297 hQ297 => ?_)
  generalize e297 : T297.heap = h297 at hQ297
  obtain ⟨rfl, M297, K297, A297, B297, C297, V297⟩ := hQ297
  have N297 := Fr.app N296 M297
  have Z297 : n0 ≤ h297.size := Nat.le_trans Z296 K297.1
  show Go p e below _ (T297.setTop (mkF m 109 #[.val (.int a), .val (.int b), .val (.int c0), .val (.int t), .val (.int n), .val (.long xv), .second, .val (.long yv), .second, .val (.long zv), .second, .val (.long (own_minL (own_minL xv yv) zv)), .second, .val (.long (own_maxL (own_maxL xv yv) zv)), .second, .val (.long ((((xv + yv) + zv) - (own_minL (own_minL xv yv) zv)) - (own_maxL (own_maxL xv yv) zv))), .second, .val (.int p0), .val (.int p1), .val (.int p2), .val (.int (2 : Int32)), .val (.ref bi), .unset] []))
  refine g_iload X297 hx (hb hby at_109) (v := (2 : Int32)) rfl (q := 111) rfl ?_
  refine g_iconst X297 hx (hb hby at_111) (n := (1 : Int32)) (by decide) (q := 112) rfl ?_
  refine g_icmp_le X297 hx (hb hby at_112) (by decide) (q := 124) (by decide) (q2 := 115) rfl (fun hb112 => absurd hb112 (by decide)) (fun hb112 => ?_)
  refine g_aload X297 hx (hb hby at_115) (v := (.ref bi)) rfl rfl (q := 117) rfl ?_
  refine g_iconst X297 hx (hb hby at_117) (n := (1 : Int32)) (by decide) (q := 118) rfl ?_
  refine g_iload X297 hx (hb hby at_118) (v := p1) rfl (q := 120) rfl ?_
  refine g_lconst X297 hx (hb hby at_120) (n := (1 : Int64)) (by decide) (q := 121) rfl ?_
  refine g_callV X297 hx hZ hown (hw _ (List.mem_of_getElem? (i := 48) rfl)) (hw _ (List.mem_of_getElem? (i := 49) rfl)) (hw _ (List.mem_of_getElem? (i := 51) rfl)) (hw _ (List.mem_of_getElem? (i := 50) rfl)) (hw _ (List.mem_of_getElem? (i := 52) rfl)) (hw _ (List.mem_of_getElem? (i := 10) rfl)) (notFace_of_selects (args := #[]) (mvT hZ (hw _ (List.mem_of_getElem? (i := 51) rfl)))) (by decide) e297 A297 (rmA l Z a0 hw bi ae (1 : Int32) p1 (1 : Int64) (1 : Int32) (2 : Int32) (4 : Int32) (2 : Int32) (3 : Int32) (by decide) (by decide) (by decide) (by decide) (by decide) (fun i => if i = (1 : Int32).toNatClampNeg then .long (0 : Int64) else if i = (0 : Int32).toNatClampNeg then .long (own_entry (0 : Int32) p0) else (fun _ => .long (0 : Int64)) i) h297 n0 (by decide) (by decide) (by decide) (by decide) ge_bi ge_ae ne_bi_ae A297 B297 C297 V297) (by exact hml.symm) (argsL := [(.int (1 : Int32)), (.int p1), (.long (1 : Int64))]) (rest := []) rfl rfl pd_7 rfl (Nat.le_of_ble_eq_true rfl) (Nat.le_of_ble_eq_true rfl) (Nat.le_of_ble_eq_true rfl) (Nat.le_of_ble_eq_true rfl) (hb hby at_121) (q := 124) rfl (fun v298 T298 L298 X298 hQ298 => ?_)
  generalize e298 : T298.heap = h298 at hQ298
  obtain ⟨rfl, M298, K298, A298, B298, C298, V298⟩ := hQ298
  have N298 := Fr.app N297 M298
  have Z298 : n0 ≤ h298.size := Nat.le_trans Z297 K298.1
  show Go p e below _ (T298.setTop (mkF m 124 #[.val (.int a), .val (.int b), .val (.int c0), .val (.int t), .val (.int n), .val (.long xv), .second, .val (.long yv), .second, .val (.long zv), .second, .val (.long (own_minL (own_minL xv yv) zv)), .second, .val (.long (own_maxL (own_maxL xv yv) zv)), .second, .val (.long ((((xv + yv) + zv) - (own_minL (own_minL xv yv) zv)) - (own_maxL (own_maxL xv yv) zv))), .second, .val (.int p0), .val (.int p1), .val (.int p2), .val (.int (2 : Int32)), .val (.ref bi), .unset] []))
  refine g_iload X298 hx (hb hby at_124) (v := (2 : Int32)) rfl (q := 126) rfl ?_
  refine g_iconst X298 hx (hb hby at_126) (n := (2 : Int32)) (by decide) (q := 127) rfl ?_
  refine g_icmp_le X298 hx (hb hby at_127) (by decide) (q := 141) (by decide) (q2 := 130) rfl (fun hb127 => ?_) (fun hb127 => absurd hb127 (by decide))
  refine g_aload X298 hx (hb hby at_141) (v := (.ref bi)) rfl rfl (q := 143) rfl ?_
  refine g_iloadN X298 hx (hb hby at_143) (v := t) rfl (q := 144) rfl ?_
  have q0 : ((fun i => if i = (3 : Int32).toNatClampNeg then .long (1 : Int64) else if i = (2 : Int32).toNatClampNeg then .long (own_entry (1 : Int32) p1) else (fun i => if i = (1 : Int32).toNatClampNeg then .long (0 : Int64) else if i = (0 : Int32).toNatClampNeg then .long (own_entry (0 : Int32) p0) else (fun _ => .long (0 : Int64)) i) i) : Nat → Value) (0 : Int32).toNatClampNeg = .long (own_entry (0 : Int32) p0) := by rfl
  have r0 := own_entry_pos (0 : Int32) p0 (by decide) g0
  have o0 : own_off (own_entry (0 : Int32) p0) = (0 : Int64) := (own_entry_off (0 : Int32) p0 (by decide) g0).trans (by decide)
  have q1 : ((fun i => if i = (3 : Int32).toNatClampNeg then .long (1 : Int64) else if i = (2 : Int32).toNatClampNeg then .long (own_entry (1 : Int32) p1) else (fun i => if i = (1 : Int32).toNatClampNeg then .long (0 : Int64) else if i = (0 : Int32).toNatClampNeg then .long (own_entry (0 : Int32) p0) else (fun _ => .long (0 : Int64)) i) i) : Nat → Value) (2 : Int32).toNatClampNeg = .long (own_entry (1 : Int32) p1) := by rfl
  have r1 := own_entry_pos (1 : Int32) p1 (by decide) g1
  have o1 : own_off (own_entry (1 : Int32) p1) = (1 : Int64) := (own_entry_off (1 : Int32) p1 (by decide) g1).trans (by decide)
  refine g_callV X298 hx hZ hown (hw _ (List.mem_of_getElem? (i := 20) rfl)) (hw _ (List.mem_of_getElem? (i := 21) rfl)) (hw _ (List.mem_of_getElem? (i := 23) rfl)) (hw _ (List.mem_of_getElem? (i := 22) rfl)) (hw _ (List.mem_of_getElem? (i := 24) rfl)) (hw _ (List.mem_of_getElem? (i := 10) rfl)) (notFace_of_selects (args := #[]) (mvT hZ (hw _ (List.mem_of_getElem? (i := 23) rfl)))) (by decide) e298 A298 (rmT2 l Z a0 hw bi ae t p0 p1 (own_entry (0 : Int32) p0) (own_entry (1 : Int32) p1) (fun i => if i = (3 : Int32).toNatClampNeg then .long (1 : Int64) else if i = (2 : Int32).toNatClampNeg then .long (own_entry (1 : Int32) p1) else (fun i => if i = (1 : Int32).toNatClampNeg then .long (0 : Int64) else if i = (0 : Int32).toNatClampNeg then .long (own_entry (0 : Int32) p0) else (fun _ => .long (0 : Int64)) i) i) h298 n0 ge_bi ne_bi_ae A298 B298 C298 V298 q0 r0 q1 r1) (by exact hml.symm) (argsL := [(.int t)]) (rest := []) rfl rfl pd_4 rfl (Nat.le_of_ble_eq_true rfl) (Nat.le_of_ble_eq_true rfl) (Nat.le_of_ble_eq_true rfl) (Nat.le_of_ble_eq_true rfl) (hb hby at_144) (q := 147) rfl (fun v299 T299 L299 X299 hQ299 => ?_)
  generalize e299 : T299.heap = h299 at hQ299
  obtain ⟨rfl, M299, K299, A299, B299, C299⟩ := hQ299
  have N299 := Fr.app N298 M299
  have Z299 : n0 ≤ h299.size := Nat.le_trans Z298 K299.1
  have V299 := V298.keep K299 (ninS (Ne.symm ne_bi_ae) nin0)
  rw [show own_tr2 t p0 p1 = (1 : Int32) from by rw [own_tr2, if_neg lt1, if_pos lt0]] at C299
  show Go p e below _ (T299.setTop (mkF m 147 #[.val (.int a), .val (.int b), .val (.int c0), .val (.int t), .val (.int n), .val (.long xv), .second, .val (.long yv), .second, .val (.long zv), .second, .val (.long (own_minL (own_minL xv yv) zv)), .second, .val (.long (own_maxL (own_maxL xv yv) zv)), .second, .val (.long ((((xv + yv) + zv) - (own_minL (own_minL xv yv) zv)) - (own_maxL (own_maxL xv yv) zv))), .second, .val (.int p0), .val (.int p1), .val (.int p2), .val (.int (2 : Int32)), .val (.ref bi), .unset] []))
  refine g_iconst X299 hx (hb hby at_147) (n := (0 : Int32)) (by decide) (q := 148) rfl ?_
  refine g_istore X299 hx (hb hby at_148) (L' := #[.val (.int a), .val (.int b), .val (.int c0), .val (.int t), .val (.int n), .val (.long xv), .second, .val (.long yv), .second, .val (.long zv), .second, .val (.long (own_minL (own_minL xv yv) zv)), .second, .val (.long (own_maxL (own_maxL xv yv) zv)), .second, .val (.long ((((xv + yv) + zv) - (own_minL (own_minL xv yv) zv)) - (own_maxL (own_maxL xv yv) zv))), .second, .val (.int p0), .val (.int p1), .val (.int p2), .val (.int (2 : Int32)), .val (.ref bi), .val (.int (0 : Int32))]) rfl (q := 150) rfl ?_
  refine g_iload X299 hx (hb hby at_150) (v := (2 : Int32)) rfl (q := 152) rfl ?_
  refine g_if_le X299 hx (hb hby at_152) (by decide) (q := 164) (by decide) (q2 := 155) rfl (fun hb152 => absurd hb152 (by decide)) (fun hb152 => ?_)
  refine g_iload X299 hx (hb hby at_155) (v := p0) rfl (q := 157) rfl ?_
  refine g_iloadN X299 hx (hb hby at_157) (v := t) rfl (q := 158) rfl ?_
  refine g_icmp_ge X299 hx (hb hby at_158) (by decide) (q := 164) (by decide) (q2 := 161) rfl (fun hb158 => absurd hb158 (not_not_intro lt0)) (fun hb158 => ?_)
  refine g_iconst X299 hx (hb hby at_161) (n := (1 : Int32)) (by decide) (q := 162) rfl ?_
  refine g_istore X299 hx (hb hby at_162) (L' := #[.val (.int a), .val (.int b), .val (.int c0), .val (.int t), .val (.int n), .val (.long xv), .second, .val (.long yv), .second, .val (.long zv), .second, .val (.long (own_minL (own_minL xv yv) zv)), .second, .val (.long (own_maxL (own_maxL xv yv) zv)), .second, .val (.long ((((xv + yv) + zv) - (own_minL (own_minL xv yv) zv)) - (own_maxL (own_maxL xv yv) zv))), .second, .val (.int p0), .val (.int p1), .val (.int p2), .val (.int (2 : Int32)), .val (.ref bi), .val (.int (1 : Int32))]) rfl (q := 164) rfl ?_
  refine g_iload X299 hx (hb hby at_164) (v := (1 : Int32)) rfl (q := 166) rfl ?_
  refine g_iconst X299 hx (hb hby at_166) (n := (1 : Int32)) (by decide) (q := 167) rfl ?_
  refine g_icmp_ne X299 hx (hb hby at_167) (by decide) (q := 185) (by decide) (q2 := 170) rfl (fun hb167 => absurd hb167 (by decide)) (fun hb167 => ?_)
  refine g_iload X299 hx (hb hby at_170) (v := (2 : Int32)) rfl (q := 172) rfl ?_
  refine g_iconst X299 hx (hb hby at_172) (n := (1 : Int32)) (by decide) (q := 173) rfl ?_
  refine g_icmp_le X299 hx (hb hby at_173) (by decide) (q := 185) (by decide) (q2 := 176) rfl (fun hb173 => absurd hb173 (by decide)) (fun hb173 => ?_)
  refine g_iload X299 hx (hb hby at_176) (v := p1) rfl (q := 178) rfl ?_
  refine g_iloadN X299 hx (hb hby at_178) (v := t) rfl (q := 179) rfl ?_
  refine g_icmp_ge X299 hx (hb hby at_179) (by decide) (q := 185) (by decide) (q2 := 182) rfl (fun hb179 => ?_) (fun hb179 => absurd hb179 lt1)
  refine g_iload X299 hx (hb hby at_185) (v := (1 : Int32)) rfl (q := 187) rfl ?_
  refine g_iconst X299 hx (hb hby at_187) (n := (2 : Int32)) (by decide) (q := 188) rfl ?_
  refine g_icmp_ne X299 hx (hb hby at_188) (by decide) (q := 206) (by decide) (q2 := 191) rfl (fun hb188 => ?_) (fun hb188 => absurd hb188 (by decide))
  refine g_aload X299 hx (hb hby at_206) (v := (.ref bi)) rfl rfl (q := 208) rfl ?_
  refine g_lconst X299 hx (hb hby at_208) (n := (0 : Int64)) (by decide) (q := 209) rfl ?_
  refine g_callVH X299 hx hH hown (hw _ (List.mem_of_getElem? (i := 27) rfl)) (hw _ (List.mem_of_getElem? (i := 28) rfl)) (hw _ (List.mem_of_getElem? (i := 30) rfl)) (hw _ (List.mem_of_getElem? (i := 29) rfl)) (hw _ (List.mem_of_getElem? (i := 31) rfl)) (hw _ (List.mem_of_getElem? (i := 10) rfl)) (notFace_of_selects (args := #[]) (mvT hZ (hw _ (List.mem_of_getElem? (i := 30) rfl)))) (by decide) e299 A299 (rmF10 l Z a0 hw bi ae (own_entry (0 : Int32) p0) p0 (fun i => if i = (3 : Int32).toNatClampNeg then .long (1 : Int64) else if i = (2 : Int32).toNatClampNeg then .long (own_entry (1 : Int32) p1) else (fun i => if i = (1 : Int32).toNatClampNeg then .long (0 : Int64) else if i = (0 : Int32).toNatClampNeg then .long (own_entry (0 : Int32) p0) else (fun _ => .long (0 : Int64)) i) i) h299 A299 B299 C299 V299 q0 r0 o0) (by exact hml.symm) (argsL := [(.long (0 : Int64))]) (rest := []) rfl rfl pd_5 rfl (Nat.le_of_ble_eq_true rfl) (Nat.le_of_ble_eq_true rfl) (Nat.le_of_ble_eq_true rfl) (Nat.le_of_ble_eq_true rfl) (hb hby at_209) (q := 212) rfl (fun v300 T300 L300 X300 hQ300 => ?_)
  generalize e300 : T300.heap = h300 at hQ300
  obtain ⟨rfl, rfl, E300⟩ := hQ300
  have z_300 := Nat.le_trans Z299 E300.1
  have f301 := (A299.ext E300)
  have f302 := (B299.ext E300)
  have f303 := (C299.ext E300)
  have f304 := (V299.ext E300)
  have N300 := Fr.app N299 (Fr.nil n0)
  show Go p e below _ (T300.setTop (mkF m 212 #[.val (.int a), .val (.int b), .val (.int c0), .val (.int t), .val (.int n), .val (.long xv), .second, .val (.long yv), .second, .val (.long zv), .second, .val (.long (own_minL (own_minL xv yv) zv)), .second, .val (.long (own_maxL (own_maxL xv yv) zv)), .second, .val (.long ((((xv + yv) + zv) - (own_minL (own_minL xv yv) zv)) - (own_maxL (own_maxL xv yv) zv))), .second, .val (.int p0), .val (.int p1), .val (.int p2), .val (.int (2 : Int32)), .val (.ref bi), .val (.int (1 : Int32))] [(.int p0)]))
  refine g_iconst X300 hx (hb hby at_212) (n := (0 : Int32)) (by decide) (q := 213) rfl ?_
  refine g_iload X300 hx (hb hby at_213) (v := (1 : Int32)) rfl (q := 215) rfl ?_
  refine g_iload X300 hx (hb hby at_215) (v := p0) rfl (q := 217) rfl ?_
  refine g_iload X300 hx (hb hby at_217) (v := p1) rfl (q := 219) rfl ?_
  refine g_iload X300 hx (hb hby at_219) (v := p2) rfl (q := 221) rfl ?_
  refine g_callS X300 hx hZ hown (hw _ (List.mem_of_getElem? (i := 40) rfl)) (hw _ (List.mem_of_getElem? (i := 41) rfl)) (hw _ (List.mem_of_getElem? (i := 42) rfl)) (hw _ (List.mem_of_getElem? (i := 43) rfl)) (by decide) e300 (rmX l Z a0 hw (0 : Int32) (1 : Int32) p0 p1 p2 p0 (own_exp_01 p0 p1 p2) h300) (by exact hml.symm) (argsL := [(.int (0 : Int32)), (.int (1 : Int32)), (.int p0), (.int p1), (.int p2)]) (rest := [(.int p0)]) rfl rfl pd_6 rfl (Nat.le_of_ble_eq_true rfl) (Nat.le_of_ble_eq_true rfl) (Nat.le_of_ble_eq_true rfl) (Nat.le_of_ble_eq_true rfl) (hb hby at_221) (q := 224) rfl (g_pure rfl rfl fun T305 X305 e305 => ?_)
  show Go p e below _ (T305.setTop (mkF m 224 #[.val (.int a), .val (.int b), .val (.int c0), .val (.int t), .val (.int n), .val (.long xv), .second, .val (.long yv), .second, .val (.long zv), .second, .val (.long (own_minL (own_minL xv yv) zv)), .second, .val (.long (own_maxL (own_maxL xv yv) zv)), .second, .val (.long ((((xv + yv) + zv) - (own_minL (own_minL xv yv) zv)) - (own_maxL (own_maxL xv yv) zv))), .second, .val (.int p0), .val (.int p1), .val (.int p2), .val (.int (2 : Int32)), .val (.ref bi), .val (.int (1 : Int32))] [(.int p0), (.int p0)]))
  refine g_icmp_ne X305 hx (hb hby at_224) (by decide) (q := 275) (by decide) (q2 := 227) rfl (fun hb224 => absurd hb224 (not_not_intro rfl)) (fun hb224 => ?_)
  refine g_aload X305 hx (hb hby at_227) (v := (.ref bi)) rfl rfl (q := 229) rfl ?_
  refine g_lconst X305 hx (hb hby at_229) (n := (1 : Int64)) (by decide) (q := 230) rfl ?_
  refine g_callVH X305 hx hH hown (hw _ (List.mem_of_getElem? (i := 27) rfl)) (hw _ (List.mem_of_getElem? (i := 28) rfl)) (hw _ (List.mem_of_getElem? (i := 30) rfl)) (hw _ (List.mem_of_getElem? (i := 29) rfl)) (hw _ (List.mem_of_getElem? (i := 31) rfl)) (hw _ (List.mem_of_getElem? (i := 10) rfl)) (notFace_of_selects (args := #[]) (mvT hZ (hw _ (List.mem_of_getElem? (i := 30) rfl)))) (by decide) e305 f301 (rmF11 l Z a0 hw bi ae (own_entry (0 : Int32) p0) p0 (fun i => if i = (3 : Int32).toNatClampNeg then .long (1 : Int64) else if i = (2 : Int32).toNatClampNeg then .long (own_entry (1 : Int32) p1) else (fun i => if i = (1 : Int32).toNatClampNeg then .long (0 : Int64) else if i = (0 : Int32).toNatClampNeg then .long (own_entry (0 : Int32) p0) else (fun _ => .long (0 : Int64)) i) i) h300 f301 f302 f303 f304 q0 r0 o0) (by exact hml.symm) (argsL := [(.long (1 : Int64))]) (rest := []) rfl rfl pd_5 rfl (Nat.le_of_ble_eq_true rfl) (Nat.le_of_ble_eq_true rfl) (Nat.le_of_ble_eq_true rfl) (Nat.le_of_ble_eq_true rfl) (hb hby at_230) (q := 233) rfl (fun v306 T306 L306 X306 hQ306 => ?_)
  generalize e306 : T306.heap = h306 at hQ306
  obtain ⟨rfl, rfl, E306⟩ := hQ306
  have z_306 := Nat.le_trans z_300 E306.1
  have f307 := (f301.ext E306)
  have f308 := (f302.ext E306)
  have f309 := (f303.ext E306)
  have f310 := (f304.ext E306)
  have N306 := Fr.app N300 (Fr.nil n0)
  show Go p e below _ (T306.setTop (mkF m 233 #[.val (.int a), .val (.int b), .val (.int c0), .val (.int t), .val (.int n), .val (.long xv), .second, .val (.long yv), .second, .val (.long zv), .second, .val (.long (own_minL (own_minL xv yv) zv)), .second, .val (.long (own_maxL (own_maxL xv yv) zv)), .second, .val (.long ((((xv + yv) + zv) - (own_minL (own_minL xv yv) zv)) - (own_maxL (own_maxL xv yv) zv))), .second, .val (.int p0), .val (.int p1), .val (.int p2), .val (.int (2 : Int32)), .val (.ref bi), .val (.int (1 : Int32))] [(.int p0)]))
  refine g_iconst X306 hx (hb hby at_233) (n := (1 : Int32)) (by decide) (q := 234) rfl ?_
  refine g_iload X306 hx (hb hby at_234) (v := (1 : Int32)) rfl (q := 236) rfl ?_
  refine g_iload X306 hx (hb hby at_236) (v := p0) rfl (q := 238) rfl ?_
  refine g_iload X306 hx (hb hby at_238) (v := p1) rfl (q := 240) rfl ?_
  refine g_iload X306 hx (hb hby at_240) (v := p2) rfl (q := 242) rfl ?_
  refine g_callS X306 hx hZ hown (hw _ (List.mem_of_getElem? (i := 40) rfl)) (hw _ (List.mem_of_getElem? (i := 41) rfl)) (hw _ (List.mem_of_getElem? (i := 42) rfl)) (hw _ (List.mem_of_getElem? (i := 43) rfl)) (by decide) e306 (rmX l Z a0 hw (1 : Int32) (1 : Int32) p0 p1 p2 p0 (own_exp_11 p0 p1 p2) h306) (by exact hml.symm) (argsL := [(.int (1 : Int32)), (.int (1 : Int32)), (.int p0), (.int p1), (.int p2)]) (rest := [(.int p0)]) rfl rfl pd_6 rfl (Nat.le_of_ble_eq_true rfl) (Nat.le_of_ble_eq_true rfl) (Nat.le_of_ble_eq_true rfl) (Nat.le_of_ble_eq_true rfl) (hb hby at_242) (q := 245) rfl (g_pure rfl rfl fun T311 X311 e311 => ?_)
  show Go p e below _ (T311.setTop (mkF m 245 #[.val (.int a), .val (.int b), .val (.int c0), .val (.int t), .val (.int n), .val (.long xv), .second, .val (.long yv), .second, .val (.long zv), .second, .val (.long (own_minL (own_minL xv yv) zv)), .second, .val (.long (own_maxL (own_maxL xv yv) zv)), .second, .val (.long ((((xv + yv) + zv) - (own_minL (own_minL xv yv) zv)) - (own_maxL (own_maxL xv yv) zv))), .second, .val (.int p0), .val (.int p1), .val (.int p2), .val (.int (2 : Int32)), .val (.ref bi), .val (.int (1 : Int32))] [(.int p0), (.int p0)]))
  refine g_icmp_ne X311 hx (hb hby at_245) (by decide) (q := 275) (by decide) (q2 := 248) rfl (fun hb245 => absurd hb245 (not_not_intro rfl)) (fun hb245 => ?_)
  refine g_aload X311 hx (hb hby at_248) (v := (.ref bi)) rfl rfl (q := 250) rfl ?_
  refine g_ldcJ X311 hx hZ hown (hw _ (List.mem_of_getElem? (i := 47) rfl)) (hb hby at_250) (q := 253) rfl ?_
  refine g_callVH X311 hx hH hown (hw _ (List.mem_of_getElem? (i := 27) rfl)) (hw _ (List.mem_of_getElem? (i := 28) rfl)) (hw _ (List.mem_of_getElem? (i := 30) rfl)) (hw _ (List.mem_of_getElem? (i := 29) rfl)) (hw _ (List.mem_of_getElem? (i := 31) rfl)) (hw _ (List.mem_of_getElem? (i := 10) rfl)) (notFace_of_selects (args := #[]) (mvT hZ (hw _ (List.mem_of_getElem? (i := 30) rfl)))) (by decide) e311 f307 (rmF12 l Z a0 hw bi ae (own_entry (0 : Int32) p0) p0 (fun i => if i = (3 : Int32).toNatClampNeg then .long (1 : Int64) else if i = (2 : Int32).toNatClampNeg then .long (own_entry (1 : Int32) p1) else (fun i => if i = (1 : Int32).toNatClampNeg then .long (0 : Int64) else if i = (0 : Int32).toNatClampNeg then .long (own_entry (0 : Int32) p0) else (fun _ => .long (0 : Int64)) i) i) h306 f307 f308 f309 f310 q0 r0 o0) (by exact hml.symm) (argsL := [(.long (2 : Int64))]) (rest := []) rfl rfl pd_5 rfl (Nat.le_of_ble_eq_true rfl) (Nat.le_of_ble_eq_true rfl) (Nat.le_of_ble_eq_true rfl) (Nat.le_of_ble_eq_true rfl) (hb hby at_253) (q := 256) rfl (fun v312 T312 L312 X312 hQ312 => ?_)
  generalize e312 : T312.heap = h312 at hQ312
  obtain ⟨rfl, rfl, E312⟩ := hQ312
  have z_312 := Nat.le_trans z_306 E312.1
  have f313 := (f307.ext E312)
  have f314 := (f308.ext E312)
  have f315 := (f309.ext E312)
  have f316 := (f310.ext E312)
  have N312 := Fr.app N306 (Fr.nil n0)
  show Go p e below _ (T312.setTop (mkF m 256 #[.val (.int a), .val (.int b), .val (.int c0), .val (.int t), .val (.int n), .val (.long xv), .second, .val (.long yv), .second, .val (.long zv), .second, .val (.long (own_minL (own_minL xv yv) zv)), .second, .val (.long (own_maxL (own_maxL xv yv) zv)), .second, .val (.long ((((xv + yv) + zv) - (own_minL (own_minL xv yv) zv)) - (own_maxL (own_maxL xv yv) zv))), .second, .val (.int p0), .val (.int p1), .val (.int p2), .val (.int (2 : Int32)), .val (.ref bi), .val (.int (1 : Int32))] [(.int p0)]))
  refine g_iconst X312 hx (hb hby at_256) (n := (2 : Int32)) (by decide) (q := 257) rfl ?_
  refine g_iload X312 hx (hb hby at_257) (v := (1 : Int32)) rfl (q := 259) rfl ?_
  refine g_iload X312 hx (hb hby at_259) (v := p0) rfl (q := 261) rfl ?_
  refine g_iload X312 hx (hb hby at_261) (v := p1) rfl (q := 263) rfl ?_
  refine g_iload X312 hx (hb hby at_263) (v := p2) rfl (q := 265) rfl ?_
  refine g_callS X312 hx hZ hown (hw _ (List.mem_of_getElem? (i := 40) rfl)) (hw _ (List.mem_of_getElem? (i := 41) rfl)) (hw _ (List.mem_of_getElem? (i := 42) rfl)) (hw _ (List.mem_of_getElem? (i := 43) rfl)) (by decide) e312 (rmX l Z a0 hw (2 : Int32) (1 : Int32) p0 p1 p2 p0 (own_exp_21 p0 p1 p2) h312) (by exact hml.symm) (argsL := [(.int (2 : Int32)), (.int (1 : Int32)), (.int p0), (.int p1), (.int p2)]) (rest := [(.int p0)]) rfl rfl pd_6 rfl (Nat.le_of_ble_eq_true rfl) (Nat.le_of_ble_eq_true rfl) (Nat.le_of_ble_eq_true rfl) (Nat.le_of_ble_eq_true rfl) (hb hby at_265) (q := 268) rfl (g_pure rfl rfl fun T317 X317 e317 => ?_)
  show Go p e below _ (T317.setTop (mkF m 268 #[.val (.int a), .val (.int b), .val (.int c0), .val (.int t), .val (.int n), .val (.long xv), .second, .val (.long yv), .second, .val (.long zv), .second, .val (.long (own_minL (own_minL xv yv) zv)), .second, .val (.long (own_maxL (own_maxL xv yv) zv)), .second, .val (.long ((((xv + yv) + zv) - (own_minL (own_minL xv yv) zv)) - (own_maxL (own_maxL xv yv) zv))), .second, .val (.int p0), .val (.int p1), .val (.int p2), .val (.int (2 : Int32)), .val (.ref bi), .val (.int (1 : Int32))] [(.int p0), (.int p0)]))
  refine g_icmp_ne X317 hx (hb hby at_268) (by decide) (q := 275) (by decide) (q2 := 271) rfl (fun hb268 => absurd hb268 (not_not_intro rfl)) (fun hb268 => ?_)
  refine g_iconst X317 hx (hb hby at_271) (n := (1 : Int32)) (by decide) (q := 272) rfl ?_
  refine g_goto X317 hx (hb hby at_272) (by decide) (q := 276) (by decide) ?_
  exact g_retB X317 hx hret hlk (hb hby at_276) (by decide) ⟨rfl, by simpa using N312⟩ (Nat.le_of_ble_eq_true rfl) (Nat.le_of_ble_eq_true rfl)
set_option maxRecDepth 65536 in
set_option maxHeartbeats 40000000 in
theorem law22 (l : Launch) (Z : State) (a0 : Array Value) (hw : ∀ d ∈ tables_1, d.before a0 Z = true) (a b c0 t n : Int32) (xv yv zv : Int64) (p0 p1 p2 : Int32) (h0 : Heap) (n0 : Nat) (Z0 : n0 ≤ h0.size) (hx1 : (a &&& (2147483647 : Int32)).toInt64 = xv) (hy1 : (b &&& (2147483647 : Int32)).toInt64 = yv) (hz1 : (c0 &&& (2147483647 : Int32)).toInt64 = zv) (hp0 : (own_minL (own_minL xv yv) zv).toInt32 = p0) (hp1 : ((((xv + yv) + zv) - (own_minL (own_minL xv yv) zv)) - (own_maxL (own_maxL xv yv) zv)).toInt32 = p1) (hp2 : (own_maxL (own_maxL xv yv) zv).toInt32 = p2) (g0 : ¬ p0 < 0) (g1 : ¬ p1 < 0) (g2 : ¬ p2 < 0) (hk : n &&& (3 : Int32) = 2) (lt0 : p0 < t) (lt1 : p1 < t) :
    ConH l Z h0 x code maxLocals ret room_1 #[(.int a), (.int b), (.int c0), (.int t), (.int n)] (fun v h L => v = some (.int 1) ∧ Fr n0 L) := by
  refine con_ofH (plainFor_of_name pn_0) (Ls := #[.val (.int a), .val (.int b), .val (.int c0), .val (.int t), .val (.int n), .unset, .unset, .unset, .unset, .unset, .unset, .unset, .unset, .unset, .unset, .unset, .unset, .unset, .unset, .unset, .unset, .unset, .unset]) (fun m => by first | (simp [entryFrame, mkF, argsToLocals, Value.category, maxLocals]; done) | rfl) ?_
  intro p e s m below meth c s₁ hx hH hby hml hret hlk hnm hown hnamed X0 e0
  have hZ := hH.wide
  refine g_iloadN X0 hx (hb hby at_0) (v := a) rfl (q := 1) rfl ?_
  refine g_ldcI X0 hx hZ hown (hw _ (List.mem_of_getElem? (i := 0) rfl)) (hb hby at_1) (q := 3) rfl ?_
  refine g_iand X0 hx (hb hby at_3) (z := (a &&& (2147483647 : Int32))) rfl (q := 4) rfl ?_
  refine g_i2l X0 hx (hb hby at_4) (z := xv) hx1 (q := 5) rfl ?_
  refine g_lstore X0 hx (hb hby at_5) (L' := #[.val (.int a), .val (.int b), .val (.int c0), .val (.int t), .val (.int n), .val (.long xv), .second, .unset, .unset, .unset, .unset, .unset, .unset, .unset, .unset, .unset, .unset, .unset, .unset, .unset, .unset, .unset, .unset]) rfl (q := 7) rfl ?_
  refine g_iloadN X0 hx (hb hby at_7) (v := b) rfl (q := 8) rfl ?_
  refine g_ldcI X0 hx hZ hown (hw _ (List.mem_of_getElem? (i := 0) rfl)) (hb hby at_8) (q := 10) rfl ?_
  refine g_iand X0 hx (hb hby at_10) (z := (b &&& (2147483647 : Int32))) rfl (q := 11) rfl ?_
  refine g_i2l X0 hx (hb hby at_11) (z := yv) hy1 (q := 12) rfl ?_
  refine g_lstore X0 hx (hb hby at_12) (L' := #[.val (.int a), .val (.int b), .val (.int c0), .val (.int t), .val (.int n), .val (.long xv), .second, .val (.long yv), .second, .unset, .unset, .unset, .unset, .unset, .unset, .unset, .unset, .unset, .unset, .unset, .unset, .unset, .unset]) rfl (q := 14) rfl ?_
  refine g_iloadN X0 hx (hb hby at_14) (v := c0) rfl (q := 15) rfl ?_
  refine g_ldcI X0 hx hZ hown (hw _ (List.mem_of_getElem? (i := 0) rfl)) (hb hby at_15) (q := 17) rfl ?_
  refine g_iand X0 hx (hb hby at_17) (z := (c0 &&& (2147483647 : Int32))) rfl (q := 18) rfl ?_
  refine g_i2l X0 hx (hb hby at_18) (z := zv) hz1 (q := 19) rfl ?_
  refine g_lstore X0 hx (hb hby at_19) (L' := #[.val (.int a), .val (.int b), .val (.int c0), .val (.int t), .val (.int n), .val (.long xv), .second, .val (.long yv), .second, .val (.long zv), .second, .unset, .unset, .unset, .unset, .unset, .unset, .unset, .unset, .unset, .unset, .unset, .unset]) rfl (q := 21) rfl ?_
  refine g_lload X0 hx (hb hby at_21) (v := xv) rfl (q := 23) rfl ?_
  refine g_lload X0 hx (hb hby at_23) (v := yv) rfl (q := 25) rfl ?_
  refine g_callS X0 hx hZ hown (hw _ (List.mem_of_getElem? (i := 1) rfl)) (hw _ (List.mem_of_getElem? (i := 2) rfl)) (hw _ (List.mem_of_getElem? (i := 3) rfl)) (hw _ (List.mem_of_getElem? (i := 4) rfl)) (by decide) e0 (rmMinL l Z a0 hw xv yv h0) (by exact hml.symm) (argsL := [(.long xv), (.long yv)]) (rest := []) rfl rfl pd_2 rfl (Nat.le_of_ble_eq_true rfl) (Nat.le_of_ble_eq_true rfl) (Nat.le_of_ble_eq_true rfl) (Nat.le_of_ble_eq_true rfl) (hb hby at_25) (q := 28) rfl (g_pure rfl rfl fun T318 X318 e318 => ?_)
  show Go p e below _ (T318.setTop (mkF m 28 #[.val (.int a), .val (.int b), .val (.int c0), .val (.int t), .val (.int n), .val (.long xv), .second, .val (.long yv), .second, .val (.long zv), .second, .unset, .unset, .unset, .unset, .unset, .unset, .unset, .unset, .unset, .unset, .unset, .unset] [(.long (own_minL xv yv))]))
  refine g_lload X318 hx (hb hby at_28) (v := zv) rfl (q := 30) rfl ?_
  refine g_callS X318 hx hZ hown (hw _ (List.mem_of_getElem? (i := 1) rfl)) (hw _ (List.mem_of_getElem? (i := 2) rfl)) (hw _ (List.mem_of_getElem? (i := 3) rfl)) (hw _ (List.mem_of_getElem? (i := 4) rfl)) (by decide) e318 (rmMinL l Z a0 hw (own_minL xv yv) zv h0) (by exact hml.symm) (argsL := [(.long (own_minL xv yv)), (.long zv)]) (rest := []) rfl rfl pd_2 rfl (Nat.le_of_ble_eq_true rfl) (Nat.le_of_ble_eq_true rfl) (Nat.le_of_ble_eq_true rfl) (Nat.le_of_ble_eq_true rfl) (hb hby at_30) (q := 33) rfl (g_pure rfl rfl fun T319 X319 e319 => ?_)
  show Go p e below _ (T319.setTop (mkF m 33 #[.val (.int a), .val (.int b), .val (.int c0), .val (.int t), .val (.int n), .val (.long xv), .second, .val (.long yv), .second, .val (.long zv), .second, .unset, .unset, .unset, .unset, .unset, .unset, .unset, .unset, .unset, .unset, .unset, .unset] [(.long (own_minL (own_minL xv yv) zv))]))
  refine g_lstore X319 hx (hb hby at_33) (L' := #[.val (.int a), .val (.int b), .val (.int c0), .val (.int t), .val (.int n), .val (.long xv), .second, .val (.long yv), .second, .val (.long zv), .second, .val (.long (own_minL (own_minL xv yv) zv)), .second, .unset, .unset, .unset, .unset, .unset, .unset, .unset, .unset, .unset, .unset]) rfl (q := 35) rfl ?_
  refine g_lload X319 hx (hb hby at_35) (v := xv) rfl (q := 37) rfl ?_
  refine g_lload X319 hx (hb hby at_37) (v := yv) rfl (q := 39) rfl ?_
  refine g_callS X319 hx hZ hown (hw _ (List.mem_of_getElem? (i := 5) rfl)) (hw _ (List.mem_of_getElem? (i := 6) rfl)) (hw _ (List.mem_of_getElem? (i := 3) rfl)) (hw _ (List.mem_of_getElem? (i := 7) rfl)) (by decide) e319 (rmMaxL l Z a0 hw xv yv h0) (by exact hml.symm) (argsL := [(.long xv), (.long yv)]) (rest := []) rfl rfl pd_2 rfl (Nat.le_of_ble_eq_true rfl) (Nat.le_of_ble_eq_true rfl) (Nat.le_of_ble_eq_true rfl) (Nat.le_of_ble_eq_true rfl) (hb hby at_39) (q := 42) rfl (g_pure rfl rfl fun T320 X320 e320 => ?_)
  show Go p e below _ (T320.setTop (mkF m 42 #[.val (.int a), .val (.int b), .val (.int c0), .val (.int t), .val (.int n), .val (.long xv), .second, .val (.long yv), .second, .val (.long zv), .second, .val (.long (own_minL (own_minL xv yv) zv)), .second, .unset, .unset, .unset, .unset, .unset, .unset, .unset, .unset, .unset, .unset] [(.long (own_maxL xv yv))]))
  refine g_lload X320 hx (hb hby at_42) (v := zv) rfl (q := 44) rfl ?_
  refine g_callS X320 hx hZ hown (hw _ (List.mem_of_getElem? (i := 5) rfl)) (hw _ (List.mem_of_getElem? (i := 6) rfl)) (hw _ (List.mem_of_getElem? (i := 3) rfl)) (hw _ (List.mem_of_getElem? (i := 7) rfl)) (by decide) e320 (rmMaxL l Z a0 hw (own_maxL xv yv) zv h0) (by exact hml.symm) (argsL := [(.long (own_maxL xv yv)), (.long zv)]) (rest := []) rfl rfl pd_2 rfl (Nat.le_of_ble_eq_true rfl) (Nat.le_of_ble_eq_true rfl) (Nat.le_of_ble_eq_true rfl) (Nat.le_of_ble_eq_true rfl) (hb hby at_44) (q := 47) rfl (g_pure rfl rfl fun T321 X321 e321 => ?_)
  show Go p e below _ (T321.setTop (mkF m 47 #[.val (.int a), .val (.int b), .val (.int c0), .val (.int t), .val (.int n), .val (.long xv), .second, .val (.long yv), .second, .val (.long zv), .second, .val (.long (own_minL (own_minL xv yv) zv)), .second, .unset, .unset, .unset, .unset, .unset, .unset, .unset, .unset, .unset, .unset] [(.long (own_maxL (own_maxL xv yv) zv))]))
  refine g_lstore X321 hx (hb hby at_47) (L' := #[.val (.int a), .val (.int b), .val (.int c0), .val (.int t), .val (.int n), .val (.long xv), .second, .val (.long yv), .second, .val (.long zv), .second, .val (.long (own_minL (own_minL xv yv) zv)), .second, .val (.long (own_maxL (own_maxL xv yv) zv)), .second, .unset, .unset, .unset, .unset, .unset, .unset, .unset, .unset]) rfl (q := 49) rfl ?_
  refine g_lload X321 hx (hb hby at_49) (v := xv) rfl (q := 51) rfl ?_
  refine g_lload X321 hx (hb hby at_51) (v := yv) rfl (q := 53) rfl ?_
  refine g_ladd X321 hx (hb hby at_53) (z := (xv + yv)) rfl (q := 54) rfl ?_
  refine g_lload X321 hx (hb hby at_54) (v := zv) rfl (q := 56) rfl ?_
  refine g_ladd X321 hx (hb hby at_56) (z := ((xv + yv) + zv)) rfl (q := 57) rfl ?_
  refine g_lload X321 hx (hb hby at_57) (v := (own_minL (own_minL xv yv) zv)) rfl (q := 59) rfl ?_
  refine g_lsub X321 hx (hb hby at_59) (z := (((xv + yv) + zv) - (own_minL (own_minL xv yv) zv))) rfl (q := 60) rfl ?_
  refine g_lload X321 hx (hb hby at_60) (v := (own_maxL (own_maxL xv yv) zv)) rfl (q := 62) rfl ?_
  refine g_lsub X321 hx (hb hby at_62) (z := ((((xv + yv) + zv) - (own_minL (own_minL xv yv) zv)) - (own_maxL (own_maxL xv yv) zv))) rfl (q := 63) rfl ?_
  refine g_lstore X321 hx (hb hby at_63) (L' := #[.val (.int a), .val (.int b), .val (.int c0), .val (.int t), .val (.int n), .val (.long xv), .second, .val (.long yv), .second, .val (.long zv), .second, .val (.long (own_minL (own_minL xv yv) zv)), .second, .val (.long (own_maxL (own_maxL xv yv) zv)), .second, .val (.long ((((xv + yv) + zv) - (own_minL (own_minL xv yv) zv)) - (own_maxL (own_maxL xv yv) zv))), .second, .unset, .unset, .unset, .unset, .unset, .unset]) rfl (q := 65) rfl ?_
  refine g_lload X321 hx (hb hby at_65) (v := (own_minL (own_minL xv yv) zv)) rfl (q := 67) rfl ?_
  refine g_l2i X321 hx (hb hby at_67) (z := p0) hp0 (q := 68) rfl ?_
  refine g_istore X321 hx (hb hby at_68) (L' := #[.val (.int a), .val (.int b), .val (.int c0), .val (.int t), .val (.int n), .val (.long xv), .second, .val (.long yv), .second, .val (.long zv), .second, .val (.long (own_minL (own_minL xv yv) zv)), .second, .val (.long (own_maxL (own_maxL xv yv) zv)), .second, .val (.long ((((xv + yv) + zv) - (own_minL (own_minL xv yv) zv)) - (own_maxL (own_maxL xv yv) zv))), .second, .val (.int p0), .unset, .unset, .unset, .unset, .unset]) rfl (q := 70) rfl ?_
  refine g_lload X321 hx (hb hby at_70) (v := ((((xv + yv) + zv) - (own_minL (own_minL xv yv) zv)) - (own_maxL (own_maxL xv yv) zv))) rfl (q := 72) rfl ?_
  refine g_l2i X321 hx (hb hby at_72) (z := p1) hp1 (q := 73) rfl ?_
  refine g_istore X321 hx (hb hby at_73) (L' := #[.val (.int a), .val (.int b), .val (.int c0), .val (.int t), .val (.int n), .val (.long xv), .second, .val (.long yv), .second, .val (.long zv), .second, .val (.long (own_minL (own_minL xv yv) zv)), .second, .val (.long (own_maxL (own_maxL xv yv) zv)), .second, .val (.long ((((xv + yv) + zv) - (own_minL (own_minL xv yv) zv)) - (own_maxL (own_maxL xv yv) zv))), .second, .val (.int p0), .val (.int p1), .unset, .unset, .unset, .unset]) rfl (q := 75) rfl ?_
  refine g_lload X321 hx (hb hby at_75) (v := (own_maxL (own_maxL xv yv) zv)) rfl (q := 77) rfl ?_
  refine g_l2i X321 hx (hb hby at_77) (z := p2) hp2 (q := 78) rfl ?_
  refine g_istore X321 hx (hb hby at_78) (L' := #[.val (.int a), .val (.int b), .val (.int c0), .val (.int t), .val (.int n), .val (.long xv), .second, .val (.long yv), .second, .val (.long zv), .second, .val (.long (own_minL (own_minL xv yv) zv)), .second, .val (.long (own_maxL (own_maxL xv yv) zv)), .second, .val (.long ((((xv + yv) + zv) - (own_minL (own_minL xv yv) zv)) - (own_maxL (own_maxL xv yv) zv))), .second, .val (.int p0), .val (.int p1), .val (.int p2), .unset, .unset, .unset]) rfl (q := 80) rfl ?_
  refine g_iload X321 hx (hb hby at_80) (v := n) rfl (q := 82) rfl ?_
  refine g_iconst X321 hx (hb hby at_82) (n := (3 : Int32)) (by decide) (q := 83) rfl ?_
  refine g_iand X321 hx (hb hby at_83) (z := (2 : Int32)) hk (q := 84) rfl ?_
  refine g_istore X321 hx (hb hby at_84) (L' := #[.val (.int a), .val (.int b), .val (.int c0), .val (.int t), .val (.int n), .val (.long xv), .second, .val (.long yv), .second, .val (.long zv), .second, .val (.long (own_minL (own_minL xv yv) zv)), .second, .val (.long (own_maxL (own_maxL xv yv) zv)), .second, .val (.long ((((xv + yv) + zv) - (own_minL (own_minL xv yv) zv)) - (own_maxL (own_maxL xv yv) zv))), .second, .val (.int p0), .val (.int p1), .val (.int p2), .val (.int (2 : Int32)), .unset, .unset]) rfl (q := 86) rfl ?_
  refine g_new X321 hx hZ hown (hw _ (List.mem_of_getElem? (i := 8) rfl)) (hw _ (List.mem_of_getElem? (i := 9) rfl)) (hw _ (List.mem_of_getElem? (i := 10) rfl)) e321 (hb hby at_86) (Nat.le_of_ble_eq_true rfl) (Nat.le_of_ble_eq_true rfl) (q := 89) rfl fun T322 h322 bi g322 X322 e322 E322 A322 D322 => ?_
  have ge_bi : n0 ≤ bi := Nat.le_trans Z0 (Nat.le_of_eq g322.symm)
  have z_322 := Nat.le_trans Z0 E322.1
  have F322_entries : Fld Z h322 bi "com/example/newlyn/newlyn/storage/SegmentIndex" "entries" "[J" .null := D322 (Or.inl (hw _ (List.mem_of_getElem? (i := 19) rfl))) (ty := (.array .long)) (by decide)
  have F322_count : Fld Z h322 bi "com/example/newlyn/newlyn/storage/SegmentIndex" "count" "I" (.int (0 : Int32)) := D322 (Or.inl (hw _ (List.mem_of_getElem? (i := 26) rfl))) (ty := .int) (by decide)
  refine g_dup X322 hx (hb hby at_89) rfl (q := 90) rfl ?_
  refine g_callI X322 hx hZ hown rfl (hw _ (List.mem_of_getElem? (i := 11) rfl)) (hw _ (List.mem_of_getElem? (i := 12) rfl)) (hw _ (List.mem_of_getElem? (i := 13) rfl)) (hw _ (List.mem_of_getElem? (i := 10) rfl)) (by decide) e322 (b := bi) (rmC l Z a0 hw bi h322 n0 z_322 ge_bi A322 F322_entries F322_count) (by exact hml.symm) (argsL := []) (rest := [(.ref bi)]) rfl rfl pd_3 rfl (Nat.le_of_ble_eq_true rfl) (Nat.le_of_ble_eq_true rfl) (Nat.le_of_ble_eq_true rfl) (Nat.le_of_ble_eq_true rfl) (hb hby at_90) (q := 93) rfl (fun v323 T323 L323 X323 hQ323 => ?_)
  generalize e323 : T323.heap = h323 at hQ323
  obtain ⟨rfl, M323, K323, A323, ae, g323, B323, C323, V323⟩ := hQ323
  have N323 := Fr.app (Fr.nil n0) M323
  have ne_bi_ae : bi ≠ ae := Nat.ne_of_lt (Nat.lt_of_lt_of_le A322.lt g323)
  have ge_ae : n0 ≤ ae := Nat.le_trans z_322 g323
  have Z323 : n0 ≤ h323.size := Nat.le_trans z_322 K323.1
  show Go p e below _ (T323.setTop (mkF m 93 #[.val (.int a), .val (.int b), .val (.int c0), .val (.int t), .val (.int n), .val (.long xv), .second, .val (.long yv), .second, .val (.long zv), .second, .val (.long (own_minL (own_minL xv yv) zv)), .second, .val (.long (own_maxL (own_maxL xv yv) zv)), .second, .val (.long ((((xv + yv) + zv) - (own_minL (own_minL xv yv) zv)) - (own_maxL (own_maxL xv yv) zv))), .second, .val (.int p0), .val (.int p1), .val (.int p2), .val (.int (2 : Int32)), .unset, .unset] [(.ref bi)]))
  refine g_astore X323 hx (hb hby at_93) rfl (L' := #[.val (.int a), .val (.int b), .val (.int c0), .val (.int t), .val (.int n), .val (.long xv), .second, .val (.long yv), .second, .val (.long zv), .second, .val (.long (own_minL (own_minL xv yv) zv)), .second, .val (.long (own_maxL (own_maxL xv yv) zv)), .second, .val (.long ((((xv + yv) + zv) - (own_minL (own_minL xv yv) zv)) - (own_maxL (own_maxL xv yv) zv))), .second, .val (.int p0), .val (.int p1), .val (.int p2), .val (.int (2 : Int32)), .val (.ref bi), .unset]) rfl (q := 95) rfl ?_
  refine g_iload X323 hx (hb hby at_95) (v := (2 : Int32)) rfl (q := 97) rfl ?_
  refine g_if_le X323 hx (hb hby at_97) (by decide) (q := 109) (by decide) (q2 := 100) rfl (fun hb97 => absurd hb97 (by decide)) (fun hb97 => ?_)
  refine g_aload X323 hx (hb hby at_100) (v := (.ref bi)) rfl rfl (q := 102) rfl ?_
  refine g_iconst X323 hx (hb hby at_102) (n := (0 : Int32)) (by decide) (q := 103) rfl ?_
  refine g_iload X323 hx (hb hby at_103) (v := p0) rfl (q := 105) rfl ?_
  refine g_lconst X323 hx (hb hby at_105) (n := (0 : Int64)) (by decide) (q := 106) rfl ?_
  refine g_callV X323 hx hZ hown (hw _ (List.mem_of_getElem? (i := 48) rfl)) (hw _ (List.mem_of_getElem? (i := 49) rfl)) (hw _ (List.mem_of_getElem? (i := 51) rfl)) (hw _ (List.mem_of_getElem? (i := 50) rfl)) (hw _ (List.mem_of_getElem? (i := 52) rfl)) (hw _ (List.mem_of_getElem? (i := 10) rfl)) (notFace_of_selects (args := #[]) (mvT hZ (hw _ (List.mem_of_getElem? (i := 51) rfl)))) (by decide) e323 A323 (rmA l Z a0 hw bi ae (0 : Int32) p0 (0 : Int64) (0 : Int32) (1 : Int32) (2 : Int32) (0 : Int32) (1 : Int32) (by decide) (by decide) (by decide) (by decide) (by decide) (fun _ => .long (0 : Int64)) h323 n0 (by decide) (by decide) (by decide) (by decide) ge_bi ge_ae ne_bi_ae A323 B323 C323 V323) (by exact hml.symm) (argsL := [(.int (0 : Int32)), (.int p0), (.long (0 : Int64))]) (rest := []) rfl rfl pd_7 rfl (Nat.le_of_ble_eq_true rfl) (Nat.le_of_ble_eq_true rfl) (Nat.le_of_ble_eq_true rfl) (Nat.le_of_ble_eq_true rfl) (hb hby at_106) (q := 109) rfl (fun v324 T324 L324 X324 hQ324 => ?_)
  generalize e324 : T324.heap = h324 at hQ324
  obtain ⟨rfl, M324, K324, A324, B324, C324, V324⟩ := hQ324
  have N324 := Fr.app N323 M324
  have Z324 : n0 ≤ h324.size := Nat.le_trans Z323 K324.1
  show Go p e below _ (T324.setTop (mkF m 109 #[.val (.int a), .val (.int b), .val (.int c0), .val (.int t), .val (.int n), .val (.long xv), .second, .val (.long yv), .second, .val (.long zv), .second, .val (.long (own_minL (own_minL xv yv) zv)), .second, .val (.long (own_maxL (own_maxL xv yv) zv)), .second, .val (.long ((((xv + yv) + zv) - (own_minL (own_minL xv yv) zv)) - (own_maxL (own_maxL xv yv) zv))), .second, .val (.int p0), .val (.int p1), .val (.int p2), .val (.int (2 : Int32)), .val (.ref bi), .unset] []))
  refine g_iload X324 hx (hb hby at_109) (v := (2 : Int32)) rfl (q := 111) rfl ?_
  refine g_iconst X324 hx (hb hby at_111) (n := (1 : Int32)) (by decide) (q := 112) rfl ?_
  refine g_icmp_le X324 hx (hb hby at_112) (by decide) (q := 124) (by decide) (q2 := 115) rfl (fun hb112 => absurd hb112 (by decide)) (fun hb112 => ?_)
  refine g_aload X324 hx (hb hby at_115) (v := (.ref bi)) rfl rfl (q := 117) rfl ?_
  refine g_iconst X324 hx (hb hby at_117) (n := (1 : Int32)) (by decide) (q := 118) rfl ?_
  refine g_iload X324 hx (hb hby at_118) (v := p1) rfl (q := 120) rfl ?_
  refine g_lconst X324 hx (hb hby at_120) (n := (1 : Int64)) (by decide) (q := 121) rfl ?_
  refine g_callV X324 hx hZ hown (hw _ (List.mem_of_getElem? (i := 48) rfl)) (hw _ (List.mem_of_getElem? (i := 49) rfl)) (hw _ (List.mem_of_getElem? (i := 51) rfl)) (hw _ (List.mem_of_getElem? (i := 50) rfl)) (hw _ (List.mem_of_getElem? (i := 52) rfl)) (hw _ (List.mem_of_getElem? (i := 10) rfl)) (notFace_of_selects (args := #[]) (mvT hZ (hw _ (List.mem_of_getElem? (i := 51) rfl)))) (by decide) e324 A324 (rmA l Z a0 hw bi ae (1 : Int32) p1 (1 : Int64) (1 : Int32) (2 : Int32) (4 : Int32) (2 : Int32) (3 : Int32) (by decide) (by decide) (by decide) (by decide) (by decide) (fun i => if i = (1 : Int32).toNatClampNeg then .long (0 : Int64) else if i = (0 : Int32).toNatClampNeg then .long (own_entry (0 : Int32) p0) else (fun _ => .long (0 : Int64)) i) h324 n0 (by decide) (by decide) (by decide) (by decide) ge_bi ge_ae ne_bi_ae A324 B324 C324 V324) (by exact hml.symm) (argsL := [(.int (1 : Int32)), (.int p1), (.long (1 : Int64))]) (rest := []) rfl rfl pd_7 rfl (Nat.le_of_ble_eq_true rfl) (Nat.le_of_ble_eq_true rfl) (Nat.le_of_ble_eq_true rfl) (Nat.le_of_ble_eq_true rfl) (hb hby at_121) (q := 124) rfl (fun v325 T325 L325 X325 hQ325 => ?_)
  generalize e325 : T325.heap = h325 at hQ325
  obtain ⟨rfl, M325, K325, A325, B325, C325, V325⟩ := hQ325
  have N325 := Fr.app N324 M325
  have Z325 : n0 ≤ h325.size := Nat.le_trans Z324 K325.1
  show Go p e below _ (T325.setTop (mkF m 124 #[.val (.int a), .val (.int b), .val (.int c0), .val (.int t), .val (.int n), .val (.long xv), .second, .val (.long yv), .second, .val (.long zv), .second, .val (.long (own_minL (own_minL xv yv) zv)), .second, .val (.long (own_maxL (own_maxL xv yv) zv)), .second, .val (.long ((((xv + yv) + zv) - (own_minL (own_minL xv yv) zv)) - (own_maxL (own_maxL xv yv) zv))), .second, .val (.int p0), .val (.int p1), .val (.int p2), .val (.int (2 : Int32)), .val (.ref bi), .unset] []))
  refine g_iload X325 hx (hb hby at_124) (v := (2 : Int32)) rfl (q := 126) rfl ?_
  refine g_iconst X325 hx (hb hby at_126) (n := (2 : Int32)) (by decide) (q := 127) rfl ?_
  refine g_icmp_le X325 hx (hb hby at_127) (by decide) (q := 141) (by decide) (q2 := 130) rfl (fun hb127 => ?_) (fun hb127 => absurd hb127 (by decide))
  refine g_aload X325 hx (hb hby at_141) (v := (.ref bi)) rfl rfl (q := 143) rfl ?_
  refine g_iloadN X325 hx (hb hby at_143) (v := t) rfl (q := 144) rfl ?_
  have q0 : ((fun i => if i = (3 : Int32).toNatClampNeg then .long (1 : Int64) else if i = (2 : Int32).toNatClampNeg then .long (own_entry (1 : Int32) p1) else (fun i => if i = (1 : Int32).toNatClampNeg then .long (0 : Int64) else if i = (0 : Int32).toNatClampNeg then .long (own_entry (0 : Int32) p0) else (fun _ => .long (0 : Int64)) i) i) : Nat → Value) (0 : Int32).toNatClampNeg = .long (own_entry (0 : Int32) p0) := by rfl
  have r0 := own_entry_pos (0 : Int32) p0 (by decide) g0
  have o0 : own_off (own_entry (0 : Int32) p0) = (0 : Int64) := (own_entry_off (0 : Int32) p0 (by decide) g0).trans (by decide)
  have q1 : ((fun i => if i = (3 : Int32).toNatClampNeg then .long (1 : Int64) else if i = (2 : Int32).toNatClampNeg then .long (own_entry (1 : Int32) p1) else (fun i => if i = (1 : Int32).toNatClampNeg then .long (0 : Int64) else if i = (0 : Int32).toNatClampNeg then .long (own_entry (0 : Int32) p0) else (fun _ => .long (0 : Int64)) i) i) : Nat → Value) (2 : Int32).toNatClampNeg = .long (own_entry (1 : Int32) p1) := by rfl
  have r1 := own_entry_pos (1 : Int32) p1 (by decide) g1
  have o1 : own_off (own_entry (1 : Int32) p1) = (1 : Int64) := (own_entry_off (1 : Int32) p1 (by decide) g1).trans (by decide)
  refine g_callV X325 hx hZ hown (hw _ (List.mem_of_getElem? (i := 20) rfl)) (hw _ (List.mem_of_getElem? (i := 21) rfl)) (hw _ (List.mem_of_getElem? (i := 23) rfl)) (hw _ (List.mem_of_getElem? (i := 22) rfl)) (hw _ (List.mem_of_getElem? (i := 24) rfl)) (hw _ (List.mem_of_getElem? (i := 10) rfl)) (notFace_of_selects (args := #[]) (mvT hZ (hw _ (List.mem_of_getElem? (i := 23) rfl)))) (by decide) e325 A325 (rmT2 l Z a0 hw bi ae t p0 p1 (own_entry (0 : Int32) p0) (own_entry (1 : Int32) p1) (fun i => if i = (3 : Int32).toNatClampNeg then .long (1 : Int64) else if i = (2 : Int32).toNatClampNeg then .long (own_entry (1 : Int32) p1) else (fun i => if i = (1 : Int32).toNatClampNeg then .long (0 : Int64) else if i = (0 : Int32).toNatClampNeg then .long (own_entry (0 : Int32) p0) else (fun _ => .long (0 : Int64)) i) i) h325 n0 ge_bi ne_bi_ae A325 B325 C325 V325 q0 r0 q1 r1) (by exact hml.symm) (argsL := [(.int t)]) (rest := []) rfl rfl pd_4 rfl (Nat.le_of_ble_eq_true rfl) (Nat.le_of_ble_eq_true rfl) (Nat.le_of_ble_eq_true rfl) (Nat.le_of_ble_eq_true rfl) (hb hby at_144) (q := 147) rfl (fun v326 T326 L326 X326 hQ326 => ?_)
  generalize e326 : T326.heap = h326 at hQ326
  obtain ⟨rfl, M326, K326, A326, B326, C326⟩ := hQ326
  have N326 := Fr.app N325 M326
  have Z326 : n0 ≤ h326.size := Nat.le_trans Z325 K326.1
  have V326 := V325.keep K326 (ninS (Ne.symm ne_bi_ae) nin0)
  rw [show own_tr2 t p0 p1 = (2 : Int32) from by rw [own_tr2, if_pos lt1]] at C326
  show Go p e below _ (T326.setTop (mkF m 147 #[.val (.int a), .val (.int b), .val (.int c0), .val (.int t), .val (.int n), .val (.long xv), .second, .val (.long yv), .second, .val (.long zv), .second, .val (.long (own_minL (own_minL xv yv) zv)), .second, .val (.long (own_maxL (own_maxL xv yv) zv)), .second, .val (.long ((((xv + yv) + zv) - (own_minL (own_minL xv yv) zv)) - (own_maxL (own_maxL xv yv) zv))), .second, .val (.int p0), .val (.int p1), .val (.int p2), .val (.int (2 : Int32)), .val (.ref bi), .unset] []))
  refine g_iconst X326 hx (hb hby at_147) (n := (0 : Int32)) (by decide) (q := 148) rfl ?_
  refine g_istore X326 hx (hb hby at_148) (L' := #[.val (.int a), .val (.int b), .val (.int c0), .val (.int t), .val (.int n), .val (.long xv), .second, .val (.long yv), .second, .val (.long zv), .second, .val (.long (own_minL (own_minL xv yv) zv)), .second, .val (.long (own_maxL (own_maxL xv yv) zv)), .second, .val (.long ((((xv + yv) + zv) - (own_minL (own_minL xv yv) zv)) - (own_maxL (own_maxL xv yv) zv))), .second, .val (.int p0), .val (.int p1), .val (.int p2), .val (.int (2 : Int32)), .val (.ref bi), .val (.int (0 : Int32))]) rfl (q := 150) rfl ?_
  refine g_iload X326 hx (hb hby at_150) (v := (2 : Int32)) rfl (q := 152) rfl ?_
  refine g_if_le X326 hx (hb hby at_152) (by decide) (q := 164) (by decide) (q2 := 155) rfl (fun hb152 => absurd hb152 (by decide)) (fun hb152 => ?_)
  refine g_iload X326 hx (hb hby at_155) (v := p0) rfl (q := 157) rfl ?_
  refine g_iloadN X326 hx (hb hby at_157) (v := t) rfl (q := 158) rfl ?_
  refine g_icmp_ge X326 hx (hb hby at_158) (by decide) (q := 164) (by decide) (q2 := 161) rfl (fun hb158 => absurd hb158 (not_not_intro lt0)) (fun hb158 => ?_)
  refine g_iconst X326 hx (hb hby at_161) (n := (1 : Int32)) (by decide) (q := 162) rfl ?_
  refine g_istore X326 hx (hb hby at_162) (L' := #[.val (.int a), .val (.int b), .val (.int c0), .val (.int t), .val (.int n), .val (.long xv), .second, .val (.long yv), .second, .val (.long zv), .second, .val (.long (own_minL (own_minL xv yv) zv)), .second, .val (.long (own_maxL (own_maxL xv yv) zv)), .second, .val (.long ((((xv + yv) + zv) - (own_minL (own_minL xv yv) zv)) - (own_maxL (own_maxL xv yv) zv))), .second, .val (.int p0), .val (.int p1), .val (.int p2), .val (.int (2 : Int32)), .val (.ref bi), .val (.int (1 : Int32))]) rfl (q := 164) rfl ?_
  refine g_iload X326 hx (hb hby at_164) (v := (1 : Int32)) rfl (q := 166) rfl ?_
  refine g_iconst X326 hx (hb hby at_166) (n := (1 : Int32)) (by decide) (q := 167) rfl ?_
  refine g_icmp_ne X326 hx (hb hby at_167) (by decide) (q := 185) (by decide) (q2 := 170) rfl (fun hb167 => absurd hb167 (by decide)) (fun hb167 => ?_)
  refine g_iload X326 hx (hb hby at_170) (v := (2 : Int32)) rfl (q := 172) rfl ?_
  refine g_iconst X326 hx (hb hby at_172) (n := (1 : Int32)) (by decide) (q := 173) rfl ?_
  refine g_icmp_le X326 hx (hb hby at_173) (by decide) (q := 185) (by decide) (q2 := 176) rfl (fun hb173 => absurd hb173 (by decide)) (fun hb173 => ?_)
  refine g_iload X326 hx (hb hby at_176) (v := p1) rfl (q := 178) rfl ?_
  refine g_iloadN X326 hx (hb hby at_178) (v := t) rfl (q := 179) rfl ?_
  refine g_icmp_ge X326 hx (hb hby at_179) (by decide) (q := 185) (by decide) (q2 := 182) rfl (fun hb179 => absurd hb179 (not_not_intro lt1)) (fun hb179 => ?_)
  refine g_iconst X326 hx (hb hby at_182) (n := (2 : Int32)) (by decide) (q := 183) rfl ?_
  refine g_istore X326 hx (hb hby at_183) (L' := #[.val (.int a), .val (.int b), .val (.int c0), .val (.int t), .val (.int n), .val (.long xv), .second, .val (.long yv), .second, .val (.long zv), .second, .val (.long (own_minL (own_minL xv yv) zv)), .second, .val (.long (own_maxL (own_maxL xv yv) zv)), .second, .val (.long ((((xv + yv) + zv) - (own_minL (own_minL xv yv) zv)) - (own_maxL (own_maxL xv yv) zv))), .second, .val (.int p0), .val (.int p1), .val (.int p2), .val (.int (2 : Int32)), .val (.ref bi), .val (.int (2 : Int32))]) rfl (q := 185) rfl ?_
  refine g_iload X326 hx (hb hby at_185) (v := (2 : Int32)) rfl (q := 187) rfl ?_
  refine g_iconst X326 hx (hb hby at_187) (n := (2 : Int32)) (by decide) (q := 188) rfl ?_
  refine g_icmp_ne X326 hx (hb hby at_188) (by decide) (q := 206) (by decide) (q2 := 191) rfl (fun hb188 => absurd hb188 (by decide)) (fun hb188 => ?_)
  refine g_iload X326 hx (hb hby at_191) (v := (2 : Int32)) rfl (q := 193) rfl ?_
  refine g_iconst X326 hx (hb hby at_193) (n := (2 : Int32)) (by decide) (q := 194) rfl ?_
  refine g_icmp_le X326 hx (hb hby at_194) (by decide) (q := 206) (by decide) (q2 := 197) rfl (fun hb194 => ?_) (fun hb194 => absurd hb194 (by decide))
  refine g_aload X326 hx (hb hby at_206) (v := (.ref bi)) rfl rfl (q := 208) rfl ?_
  refine g_lconst X326 hx (hb hby at_208) (n := (0 : Int64)) (by decide) (q := 209) rfl ?_
  refine g_callVH X326 hx hH hown (hw _ (List.mem_of_getElem? (i := 27) rfl)) (hw _ (List.mem_of_getElem? (i := 28) rfl)) (hw _ (List.mem_of_getElem? (i := 30) rfl)) (hw _ (List.mem_of_getElem? (i := 29) rfl)) (hw _ (List.mem_of_getElem? (i := 31) rfl)) (hw _ (List.mem_of_getElem? (i := 10) rfl)) (notFace_of_selects (args := #[]) (mvT hZ (hw _ (List.mem_of_getElem? (i := 30) rfl)))) (by decide) e326 A326 (rmF20 l Z a0 hw bi ae (own_entry (0 : Int32) p0) p0 (own_entry (1 : Int32) p1) p1 (fun i => if i = (3 : Int32).toNatClampNeg then .long (1 : Int64) else if i = (2 : Int32).toNatClampNeg then .long (own_entry (1 : Int32) p1) else (fun i => if i = (1 : Int32).toNatClampNeg then .long (0 : Int64) else if i = (0 : Int32).toNatClampNeg then .long (own_entry (0 : Int32) p0) else (fun _ => .long (0 : Int64)) i) i) h326 A326 B326 C326 V326 q0 r0 o0 q1 r1 o1) (by exact hml.symm) (argsL := [(.long (0 : Int64))]) (rest := []) rfl rfl pd_5 rfl (Nat.le_of_ble_eq_true rfl) (Nat.le_of_ble_eq_true rfl) (Nat.le_of_ble_eq_true rfl) (Nat.le_of_ble_eq_true rfl) (hb hby at_209) (q := 212) rfl (fun v327 T327 L327 X327 hQ327 => ?_)
  generalize e327 : T327.heap = h327 at hQ327
  obtain ⟨rfl, rfl, E327⟩ := hQ327
  have z_327 := Nat.le_trans Z326 E327.1
  have f328 := (A326.ext E327)
  have f329 := (B326.ext E327)
  have f330 := (C326.ext E327)
  have f331 := (V326.ext E327)
  have N327 := Fr.app N326 (Fr.nil n0)
  show Go p e below _ (T327.setTop (mkF m 212 #[.val (.int a), .val (.int b), .val (.int c0), .val (.int t), .val (.int n), .val (.long xv), .second, .val (.long yv), .second, .val (.long zv), .second, .val (.long (own_minL (own_minL xv yv) zv)), .second, .val (.long (own_maxL (own_maxL xv yv) zv)), .second, .val (.long ((((xv + yv) + zv) - (own_minL (own_minL xv yv) zv)) - (own_maxL (own_maxL xv yv) zv))), .second, .val (.int p0), .val (.int p1), .val (.int p2), .val (.int (2 : Int32)), .val (.ref bi), .val (.int (2 : Int32))] [(.int p0)]))
  refine g_iconst X327 hx (hb hby at_212) (n := (0 : Int32)) (by decide) (q := 213) rfl ?_
  refine g_iload X327 hx (hb hby at_213) (v := (2 : Int32)) rfl (q := 215) rfl ?_
  refine g_iload X327 hx (hb hby at_215) (v := p0) rfl (q := 217) rfl ?_
  refine g_iload X327 hx (hb hby at_217) (v := p1) rfl (q := 219) rfl ?_
  refine g_iload X327 hx (hb hby at_219) (v := p2) rfl (q := 221) rfl ?_
  refine g_callS X327 hx hZ hown (hw _ (List.mem_of_getElem? (i := 40) rfl)) (hw _ (List.mem_of_getElem? (i := 41) rfl)) (hw _ (List.mem_of_getElem? (i := 42) rfl)) (hw _ (List.mem_of_getElem? (i := 43) rfl)) (by decide) e327 (rmX l Z a0 hw (0 : Int32) (2 : Int32) p0 p1 p2 p0 (own_exp_02 p0 p1 p2) h327) (by exact hml.symm) (argsL := [(.int (0 : Int32)), (.int (2 : Int32)), (.int p0), (.int p1), (.int p2)]) (rest := [(.int p0)]) rfl rfl pd_6 rfl (Nat.le_of_ble_eq_true rfl) (Nat.le_of_ble_eq_true rfl) (Nat.le_of_ble_eq_true rfl) (Nat.le_of_ble_eq_true rfl) (hb hby at_221) (q := 224) rfl (g_pure rfl rfl fun T332 X332 e332 => ?_)
  show Go p e below _ (T332.setTop (mkF m 224 #[.val (.int a), .val (.int b), .val (.int c0), .val (.int t), .val (.int n), .val (.long xv), .second, .val (.long yv), .second, .val (.long zv), .second, .val (.long (own_minL (own_minL xv yv) zv)), .second, .val (.long (own_maxL (own_maxL xv yv) zv)), .second, .val (.long ((((xv + yv) + zv) - (own_minL (own_minL xv yv) zv)) - (own_maxL (own_maxL xv yv) zv))), .second, .val (.int p0), .val (.int p1), .val (.int p2), .val (.int (2 : Int32)), .val (.ref bi), .val (.int (2 : Int32))] [(.int p0), (.int p0)]))
  refine g_icmp_ne X332 hx (hb hby at_224) (by decide) (q := 275) (by decide) (q2 := 227) rfl (fun hb224 => absurd hb224 (not_not_intro rfl)) (fun hb224 => ?_)
  refine g_aload X332 hx (hb hby at_227) (v := (.ref bi)) rfl rfl (q := 229) rfl ?_
  refine g_lconst X332 hx (hb hby at_229) (n := (1 : Int64)) (by decide) (q := 230) rfl ?_
  refine g_callVH X332 hx hH hown (hw _ (List.mem_of_getElem? (i := 27) rfl)) (hw _ (List.mem_of_getElem? (i := 28) rfl)) (hw _ (List.mem_of_getElem? (i := 30) rfl)) (hw _ (List.mem_of_getElem? (i := 29) rfl)) (hw _ (List.mem_of_getElem? (i := 31) rfl)) (hw _ (List.mem_of_getElem? (i := 10) rfl)) (notFace_of_selects (args := #[]) (mvT hZ (hw _ (List.mem_of_getElem? (i := 30) rfl)))) (by decide) e332 f328 (rmF21 l Z a0 hw bi ae (own_entry (0 : Int32) p0) p0 (own_entry (1 : Int32) p1) p1 (fun i => if i = (3 : Int32).toNatClampNeg then .long (1 : Int64) else if i = (2 : Int32).toNatClampNeg then .long (own_entry (1 : Int32) p1) else (fun i => if i = (1 : Int32).toNatClampNeg then .long (0 : Int64) else if i = (0 : Int32).toNatClampNeg then .long (own_entry (0 : Int32) p0) else (fun _ => .long (0 : Int64)) i) i) h327 f328 f329 f330 f331 q0 r0 o0 q1 r1 o1) (by exact hml.symm) (argsL := [(.long (1 : Int64))]) (rest := []) rfl rfl pd_5 rfl (Nat.le_of_ble_eq_true rfl) (Nat.le_of_ble_eq_true rfl) (Nat.le_of_ble_eq_true rfl) (Nat.le_of_ble_eq_true rfl) (hb hby at_230) (q := 233) rfl (fun v333 T333 L333 X333 hQ333 => ?_)
  generalize e333 : T333.heap = h333 at hQ333
  obtain ⟨rfl, rfl, E333⟩ := hQ333
  have z_333 := Nat.le_trans z_327 E333.1
  have f334 := (f328.ext E333)
  have f335 := (f329.ext E333)
  have f336 := (f330.ext E333)
  have f337 := (f331.ext E333)
  have N333 := Fr.app N327 (Fr.nil n0)
  show Go p e below _ (T333.setTop (mkF m 233 #[.val (.int a), .val (.int b), .val (.int c0), .val (.int t), .val (.int n), .val (.long xv), .second, .val (.long yv), .second, .val (.long zv), .second, .val (.long (own_minL (own_minL xv yv) zv)), .second, .val (.long (own_maxL (own_maxL xv yv) zv)), .second, .val (.long ((((xv + yv) + zv) - (own_minL (own_minL xv yv) zv)) - (own_maxL (own_maxL xv yv) zv))), .second, .val (.int p0), .val (.int p1), .val (.int p2), .val (.int (2 : Int32)), .val (.ref bi), .val (.int (2 : Int32))] [(.int p1)]))
  refine g_iconst X333 hx (hb hby at_233) (n := (1 : Int32)) (by decide) (q := 234) rfl ?_
  refine g_iload X333 hx (hb hby at_234) (v := (2 : Int32)) rfl (q := 236) rfl ?_
  refine g_iload X333 hx (hb hby at_236) (v := p0) rfl (q := 238) rfl ?_
  refine g_iload X333 hx (hb hby at_238) (v := p1) rfl (q := 240) rfl ?_
  refine g_iload X333 hx (hb hby at_240) (v := p2) rfl (q := 242) rfl ?_
  refine g_callS X333 hx hZ hown (hw _ (List.mem_of_getElem? (i := 40) rfl)) (hw _ (List.mem_of_getElem? (i := 41) rfl)) (hw _ (List.mem_of_getElem? (i := 42) rfl)) (hw _ (List.mem_of_getElem? (i := 43) rfl)) (by decide) e333 (rmX l Z a0 hw (1 : Int32) (2 : Int32) p0 p1 p2 p1 (own_exp_12 p0 p1 p2) h333) (by exact hml.symm) (argsL := [(.int (1 : Int32)), (.int (2 : Int32)), (.int p0), (.int p1), (.int p2)]) (rest := [(.int p1)]) rfl rfl pd_6 rfl (Nat.le_of_ble_eq_true rfl) (Nat.le_of_ble_eq_true rfl) (Nat.le_of_ble_eq_true rfl) (Nat.le_of_ble_eq_true rfl) (hb hby at_242) (q := 245) rfl (g_pure rfl rfl fun T338 X338 e338 => ?_)
  show Go p e below _ (T338.setTop (mkF m 245 #[.val (.int a), .val (.int b), .val (.int c0), .val (.int t), .val (.int n), .val (.long xv), .second, .val (.long yv), .second, .val (.long zv), .second, .val (.long (own_minL (own_minL xv yv) zv)), .second, .val (.long (own_maxL (own_maxL xv yv) zv)), .second, .val (.long ((((xv + yv) + zv) - (own_minL (own_minL xv yv) zv)) - (own_maxL (own_maxL xv yv) zv))), .second, .val (.int p0), .val (.int p1), .val (.int p2), .val (.int (2 : Int32)), .val (.ref bi), .val (.int (2 : Int32))] [(.int p1), (.int p1)]))
  refine g_icmp_ne X338 hx (hb hby at_245) (by decide) (q := 275) (by decide) (q2 := 248) rfl (fun hb245 => absurd hb245 (not_not_intro rfl)) (fun hb245 => ?_)
  refine g_aload X338 hx (hb hby at_248) (v := (.ref bi)) rfl rfl (q := 250) rfl ?_
  refine g_ldcJ X338 hx hZ hown (hw _ (List.mem_of_getElem? (i := 47) rfl)) (hb hby at_250) (q := 253) rfl ?_
  refine g_callVH X338 hx hH hown (hw _ (List.mem_of_getElem? (i := 27) rfl)) (hw _ (List.mem_of_getElem? (i := 28) rfl)) (hw _ (List.mem_of_getElem? (i := 30) rfl)) (hw _ (List.mem_of_getElem? (i := 29) rfl)) (hw _ (List.mem_of_getElem? (i := 31) rfl)) (hw _ (List.mem_of_getElem? (i := 10) rfl)) (notFace_of_selects (args := #[]) (mvT hZ (hw _ (List.mem_of_getElem? (i := 30) rfl)))) (by decide) e338 f334 (rmF22 l Z a0 hw bi ae (own_entry (0 : Int32) p0) p0 (own_entry (1 : Int32) p1) p1 (fun i => if i = (3 : Int32).toNatClampNeg then .long (1 : Int64) else if i = (2 : Int32).toNatClampNeg then .long (own_entry (1 : Int32) p1) else (fun i => if i = (1 : Int32).toNatClampNeg then .long (0 : Int64) else if i = (0 : Int32).toNatClampNeg then .long (own_entry (0 : Int32) p0) else (fun _ => .long (0 : Int64)) i) i) h333 f334 f335 f336 f337 q0 r0 o0 q1 r1 o1) (by exact hml.symm) (argsL := [(.long (2 : Int64))]) (rest := []) rfl rfl pd_5 rfl (Nat.le_of_ble_eq_true rfl) (Nat.le_of_ble_eq_true rfl) (Nat.le_of_ble_eq_true rfl) (Nat.le_of_ble_eq_true rfl) (hb hby at_253) (q := 256) rfl (fun v339 T339 L339 X339 hQ339 => ?_)
  generalize e339 : T339.heap = h339 at hQ339
  obtain ⟨rfl, rfl, E339⟩ := hQ339
  have z_339 := Nat.le_trans z_333 E339.1
  have f340 := (f334.ext E339)
  have f341 := (f335.ext E339)
  have f342 := (f336.ext E339)
  have f343 := (f337.ext E339)
  have N339 := Fr.app N333 (Fr.nil n0)
  show Go p e below _ (T339.setTop (mkF m 256 #[.val (.int a), .val (.int b), .val (.int c0), .val (.int t), .val (.int n), .val (.long xv), .second, .val (.long yv), .second, .val (.long zv), .second, .val (.long (own_minL (own_minL xv yv) zv)), .second, .val (.long (own_maxL (own_maxL xv yv) zv)), .second, .val (.long ((((xv + yv) + zv) - (own_minL (own_minL xv yv) zv)) - (own_maxL (own_maxL xv yv) zv))), .second, .val (.int p0), .val (.int p1), .val (.int p2), .val (.int (2 : Int32)), .val (.ref bi), .val (.int (2 : Int32))] [(.int p1)]))
  refine g_iconst X339 hx (hb hby at_256) (n := (2 : Int32)) (by decide) (q := 257) rfl ?_
  refine g_iload X339 hx (hb hby at_257) (v := (2 : Int32)) rfl (q := 259) rfl ?_
  refine g_iload X339 hx (hb hby at_259) (v := p0) rfl (q := 261) rfl ?_
  refine g_iload X339 hx (hb hby at_261) (v := p1) rfl (q := 263) rfl ?_
  refine g_iload X339 hx (hb hby at_263) (v := p2) rfl (q := 265) rfl ?_
  refine g_callS X339 hx hZ hown (hw _ (List.mem_of_getElem? (i := 40) rfl)) (hw _ (List.mem_of_getElem? (i := 41) rfl)) (hw _ (List.mem_of_getElem? (i := 42) rfl)) (hw _ (List.mem_of_getElem? (i := 43) rfl)) (by decide) e339 (rmX l Z a0 hw (2 : Int32) (2 : Int32) p0 p1 p2 p1 (own_exp_22 p0 p1 p2) h339) (by exact hml.symm) (argsL := [(.int (2 : Int32)), (.int (2 : Int32)), (.int p0), (.int p1), (.int p2)]) (rest := [(.int p1)]) rfl rfl pd_6 rfl (Nat.le_of_ble_eq_true rfl) (Nat.le_of_ble_eq_true rfl) (Nat.le_of_ble_eq_true rfl) (Nat.le_of_ble_eq_true rfl) (hb hby at_265) (q := 268) rfl (g_pure rfl rfl fun T344 X344 e344 => ?_)
  show Go p e below _ (T344.setTop (mkF m 268 #[.val (.int a), .val (.int b), .val (.int c0), .val (.int t), .val (.int n), .val (.long xv), .second, .val (.long yv), .second, .val (.long zv), .second, .val (.long (own_minL (own_minL xv yv) zv)), .second, .val (.long (own_maxL (own_maxL xv yv) zv)), .second, .val (.long ((((xv + yv) + zv) - (own_minL (own_minL xv yv) zv)) - (own_maxL (own_maxL xv yv) zv))), .second, .val (.int p0), .val (.int p1), .val (.int p2), .val (.int (2 : Int32)), .val (.ref bi), .val (.int (2 : Int32))] [(.int p1), (.int p1)]))
  refine g_icmp_ne X344 hx (hb hby at_268) (by decide) (q := 275) (by decide) (q2 := 271) rfl (fun hb268 => absurd hb268 (not_not_intro rfl)) (fun hb268 => ?_)
  refine g_iconst X344 hx (hb hby at_271) (n := (1 : Int32)) (by decide) (q := 272) rfl ?_
  refine g_goto X344 hx (hb hby at_272) (by decide) (q := 276) (by decide) ?_
  exact g_retB X344 hx hret hlk (hb hby at_276) (by decide) ⟨rfl, by simpa using N339⟩ (Nat.le_of_ble_eq_true rfl) (Nat.le_of_ble_eq_true rfl)
set_option maxRecDepth 65536 in
set_option maxHeartbeats 40000000 in
theorem law30 (l : Launch) (Z : State) (a0 : Array Value) (hw : ∀ d ∈ tables_1, d.before a0 Z = true) (a b c0 t n : Int32) (xv yv zv : Int64) (p0 p1 p2 : Int32) (h0 : Heap) (n0 : Nat) (Z0 : n0 ≤ h0.size) (hx1 : (a &&& (2147483647 : Int32)).toInt64 = xv) (hy1 : (b &&& (2147483647 : Int32)).toInt64 = yv) (hz1 : (c0 &&& (2147483647 : Int32)).toInt64 = zv) (hp0 : (own_minL (own_minL xv yv) zv).toInt32 = p0) (hp1 : ((((xv + yv) + zv) - (own_minL (own_minL xv yv) zv)) - (own_maxL (own_maxL xv yv) zv)).toInt32 = p1) (hp2 : (own_maxL (own_maxL xv yv) zv).toInt32 = p2) (g0 : ¬ p0 < 0) (g1 : ¬ p1 < 0) (g2 : ¬ p2 < 0) (hk : n &&& (3 : Int32) = 3) (lt0 : ¬ p0 < t) (lt1 : ¬ p1 < t) (lt2 : ¬ p2 < t) :
    ConH l Z h0 x code maxLocals ret room_1 #[(.int a), (.int b), (.int c0), (.int t), (.int n)] (fun v h L => v = some (.int 1) ∧ Fr n0 L) := by
  refine con_ofH (plainFor_of_name pn_0) (Ls := #[.val (.int a), .val (.int b), .val (.int c0), .val (.int t), .val (.int n), .unset, .unset, .unset, .unset, .unset, .unset, .unset, .unset, .unset, .unset, .unset, .unset, .unset, .unset, .unset, .unset, .unset, .unset]) (fun m => by first | (simp [entryFrame, mkF, argsToLocals, Value.category, maxLocals]; done) | rfl) ?_
  intro p e s m below meth c s₁ hx hH hby hml hret hlk hnm hown hnamed X0 e0
  have hZ := hH.wide
  refine g_iloadN X0 hx (hb hby at_0) (v := a) rfl (q := 1) rfl ?_
  refine g_ldcI X0 hx hZ hown (hw _ (List.mem_of_getElem? (i := 0) rfl)) (hb hby at_1) (q := 3) rfl ?_
  refine g_iand X0 hx (hb hby at_3) (z := (a &&& (2147483647 : Int32))) rfl (q := 4) rfl ?_
  refine g_i2l X0 hx (hb hby at_4) (z := xv) hx1 (q := 5) rfl ?_
  refine g_lstore X0 hx (hb hby at_5) (L' := #[.val (.int a), .val (.int b), .val (.int c0), .val (.int t), .val (.int n), .val (.long xv), .second, .unset, .unset, .unset, .unset, .unset, .unset, .unset, .unset, .unset, .unset, .unset, .unset, .unset, .unset, .unset, .unset]) rfl (q := 7) rfl ?_
  refine g_iloadN X0 hx (hb hby at_7) (v := b) rfl (q := 8) rfl ?_
  refine g_ldcI X0 hx hZ hown (hw _ (List.mem_of_getElem? (i := 0) rfl)) (hb hby at_8) (q := 10) rfl ?_
  refine g_iand X0 hx (hb hby at_10) (z := (b &&& (2147483647 : Int32))) rfl (q := 11) rfl ?_
  refine g_i2l X0 hx (hb hby at_11) (z := yv) hy1 (q := 12) rfl ?_
  refine g_lstore X0 hx (hb hby at_12) (L' := #[.val (.int a), .val (.int b), .val (.int c0), .val (.int t), .val (.int n), .val (.long xv), .second, .val (.long yv), .second, .unset, .unset, .unset, .unset, .unset, .unset, .unset, .unset, .unset, .unset, .unset, .unset, .unset, .unset]) rfl (q := 14) rfl ?_
  refine g_iloadN X0 hx (hb hby at_14) (v := c0) rfl (q := 15) rfl ?_
  refine g_ldcI X0 hx hZ hown (hw _ (List.mem_of_getElem? (i := 0) rfl)) (hb hby at_15) (q := 17) rfl ?_
  refine g_iand X0 hx (hb hby at_17) (z := (c0 &&& (2147483647 : Int32))) rfl (q := 18) rfl ?_
  refine g_i2l X0 hx (hb hby at_18) (z := zv) hz1 (q := 19) rfl ?_
  refine g_lstore X0 hx (hb hby at_19) (L' := #[.val (.int a), .val (.int b), .val (.int c0), .val (.int t), .val (.int n), .val (.long xv), .second, .val (.long yv), .second, .val (.long zv), .second, .unset, .unset, .unset, .unset, .unset, .unset, .unset, .unset, .unset, .unset, .unset, .unset]) rfl (q := 21) rfl ?_
  refine g_lload X0 hx (hb hby at_21) (v := xv) rfl (q := 23) rfl ?_
  refine g_lload X0 hx (hb hby at_23) (v := yv) rfl (q := 25) rfl ?_
  refine g_callS X0 hx hZ hown (hw _ (List.mem_of_getElem? (i := 1) rfl)) (hw _ (List.mem_of_getElem? (i := 2) rfl)) (hw _ (List.mem_of_getElem? (i := 3) rfl)) (hw _ (List.mem_of_getElem? (i := 4) rfl)) (by decide) e0 (rmMinL l Z a0 hw xv yv h0) (by exact hml.symm) (argsL := [(.long xv), (.long yv)]) (rest := []) rfl rfl pd_2 rfl (Nat.le_of_ble_eq_true rfl) (Nat.le_of_ble_eq_true rfl) (Nat.le_of_ble_eq_true rfl) (Nat.le_of_ble_eq_true rfl) (hb hby at_25) (q := 28) rfl (g_pure rfl rfl fun T345 X345 e345 => ?_)
  show Go p e below _ (T345.setTop (mkF m 28 #[.val (.int a), .val (.int b), .val (.int c0), .val (.int t), .val (.int n), .val (.long xv), .second, .val (.long yv), .second, .val (.long zv), .second, .unset, .unset, .unset, .unset, .unset, .unset, .unset, .unset, .unset, .unset, .unset, .unset] [(.long (own_minL xv yv))]))
  refine g_lload X345 hx (hb hby at_28) (v := zv) rfl (q := 30) rfl ?_
  refine g_callS X345 hx hZ hown (hw _ (List.mem_of_getElem? (i := 1) rfl)) (hw _ (List.mem_of_getElem? (i := 2) rfl)) (hw _ (List.mem_of_getElem? (i := 3) rfl)) (hw _ (List.mem_of_getElem? (i := 4) rfl)) (by decide) e345 (rmMinL l Z a0 hw (own_minL xv yv) zv h0) (by exact hml.symm) (argsL := [(.long (own_minL xv yv)), (.long zv)]) (rest := []) rfl rfl pd_2 rfl (Nat.le_of_ble_eq_true rfl) (Nat.le_of_ble_eq_true rfl) (Nat.le_of_ble_eq_true rfl) (Nat.le_of_ble_eq_true rfl) (hb hby at_30) (q := 33) rfl (g_pure rfl rfl fun T346 X346 e346 => ?_)
  show Go p e below _ (T346.setTop (mkF m 33 #[.val (.int a), .val (.int b), .val (.int c0), .val (.int t), .val (.int n), .val (.long xv), .second, .val (.long yv), .second, .val (.long zv), .second, .unset, .unset, .unset, .unset, .unset, .unset, .unset, .unset, .unset, .unset, .unset, .unset] [(.long (own_minL (own_minL xv yv) zv))]))
  refine g_lstore X346 hx (hb hby at_33) (L' := #[.val (.int a), .val (.int b), .val (.int c0), .val (.int t), .val (.int n), .val (.long xv), .second, .val (.long yv), .second, .val (.long zv), .second, .val (.long (own_minL (own_minL xv yv) zv)), .second, .unset, .unset, .unset, .unset, .unset, .unset, .unset, .unset, .unset, .unset]) rfl (q := 35) rfl ?_
  refine g_lload X346 hx (hb hby at_35) (v := xv) rfl (q := 37) rfl ?_
  refine g_lload X346 hx (hb hby at_37) (v := yv) rfl (q := 39) rfl ?_
  refine g_callS X346 hx hZ hown (hw _ (List.mem_of_getElem? (i := 5) rfl)) (hw _ (List.mem_of_getElem? (i := 6) rfl)) (hw _ (List.mem_of_getElem? (i := 3) rfl)) (hw _ (List.mem_of_getElem? (i := 7) rfl)) (by decide) e346 (rmMaxL l Z a0 hw xv yv h0) (by exact hml.symm) (argsL := [(.long xv), (.long yv)]) (rest := []) rfl rfl pd_2 rfl (Nat.le_of_ble_eq_true rfl) (Nat.le_of_ble_eq_true rfl) (Nat.le_of_ble_eq_true rfl) (Nat.le_of_ble_eq_true rfl) (hb hby at_39) (q := 42) rfl (g_pure rfl rfl fun T347 X347 e347 => ?_)
  show Go p e below _ (T347.setTop (mkF m 42 #[.val (.int a), .val (.int b), .val (.int c0), .val (.int t), .val (.int n), .val (.long xv), .second, .val (.long yv), .second, .val (.long zv), .second, .val (.long (own_minL (own_minL xv yv) zv)), .second, .unset, .unset, .unset, .unset, .unset, .unset, .unset, .unset, .unset, .unset] [(.long (own_maxL xv yv))]))
  refine g_lload X347 hx (hb hby at_42) (v := zv) rfl (q := 44) rfl ?_
  refine g_callS X347 hx hZ hown (hw _ (List.mem_of_getElem? (i := 5) rfl)) (hw _ (List.mem_of_getElem? (i := 6) rfl)) (hw _ (List.mem_of_getElem? (i := 3) rfl)) (hw _ (List.mem_of_getElem? (i := 7) rfl)) (by decide) e347 (rmMaxL l Z a0 hw (own_maxL xv yv) zv h0) (by exact hml.symm) (argsL := [(.long (own_maxL xv yv)), (.long zv)]) (rest := []) rfl rfl pd_2 rfl (Nat.le_of_ble_eq_true rfl) (Nat.le_of_ble_eq_true rfl) (Nat.le_of_ble_eq_true rfl) (Nat.le_of_ble_eq_true rfl) (hb hby at_44) (q := 47) rfl (g_pure rfl rfl fun T348 X348 e348 => ?_)
  show Go p e below _ (T348.setTop (mkF m 47 #[.val (.int a), .val (.int b), .val (.int c0), .val (.int t), .val (.int n), .val (.long xv), .second, .val (.long yv), .second, .val (.long zv), .second, .val (.long (own_minL (own_minL xv yv) zv)), .second, .unset, .unset, .unset, .unset, .unset, .unset, .unset, .unset, .unset, .unset] [(.long (own_maxL (own_maxL xv yv) zv))]))
  refine g_lstore X348 hx (hb hby at_47) (L' := #[.val (.int a), .val (.int b), .val (.int c0), .val (.int t), .val (.int n), .val (.long xv), .second, .val (.long yv), .second, .val (.long zv), .second, .val (.long (own_minL (own_minL xv yv) zv)), .second, .val (.long (own_maxL (own_maxL xv yv) zv)), .second, .unset, .unset, .unset, .unset, .unset, .unset, .unset, .unset]) rfl (q := 49) rfl ?_
  refine g_lload X348 hx (hb hby at_49) (v := xv) rfl (q := 51) rfl ?_
  refine g_lload X348 hx (hb hby at_51) (v := yv) rfl (q := 53) rfl ?_
  refine g_ladd X348 hx (hb hby at_53) (z := (xv + yv)) rfl (q := 54) rfl ?_
  refine g_lload X348 hx (hb hby at_54) (v := zv) rfl (q := 56) rfl ?_
  refine g_ladd X348 hx (hb hby at_56) (z := ((xv + yv) + zv)) rfl (q := 57) rfl ?_
  refine g_lload X348 hx (hb hby at_57) (v := (own_minL (own_minL xv yv) zv)) rfl (q := 59) rfl ?_
  refine g_lsub X348 hx (hb hby at_59) (z := (((xv + yv) + zv) - (own_minL (own_minL xv yv) zv))) rfl (q := 60) rfl ?_
  refine g_lload X348 hx (hb hby at_60) (v := (own_maxL (own_maxL xv yv) zv)) rfl (q := 62) rfl ?_
  refine g_lsub X348 hx (hb hby at_62) (z := ((((xv + yv) + zv) - (own_minL (own_minL xv yv) zv)) - (own_maxL (own_maxL xv yv) zv))) rfl (q := 63) rfl ?_
  refine g_lstore X348 hx (hb hby at_63) (L' := #[.val (.int a), .val (.int b), .val (.int c0), .val (.int t), .val (.int n), .val (.long xv), .second, .val (.long yv), .second, .val (.long zv), .second, .val (.long (own_minL (own_minL xv yv) zv)), .second, .val (.long (own_maxL (own_maxL xv yv) zv)), .second, .val (.long ((((xv + yv) + zv) - (own_minL (own_minL xv yv) zv)) - (own_maxL (own_maxL xv yv) zv))), .second, .unset, .unset, .unset, .unset, .unset, .unset]) rfl (q := 65) rfl ?_
  refine g_lload X348 hx (hb hby at_65) (v := (own_minL (own_minL xv yv) zv)) rfl (q := 67) rfl ?_
  refine g_l2i X348 hx (hb hby at_67) (z := p0) hp0 (q := 68) rfl ?_
  refine g_istore X348 hx (hb hby at_68) (L' := #[.val (.int a), .val (.int b), .val (.int c0), .val (.int t), .val (.int n), .val (.long xv), .second, .val (.long yv), .second, .val (.long zv), .second, .val (.long (own_minL (own_minL xv yv) zv)), .second, .val (.long (own_maxL (own_maxL xv yv) zv)), .second, .val (.long ((((xv + yv) + zv) - (own_minL (own_minL xv yv) zv)) - (own_maxL (own_maxL xv yv) zv))), .second, .val (.int p0), .unset, .unset, .unset, .unset, .unset]) rfl (q := 70) rfl ?_
  refine g_lload X348 hx (hb hby at_70) (v := ((((xv + yv) + zv) - (own_minL (own_minL xv yv) zv)) - (own_maxL (own_maxL xv yv) zv))) rfl (q := 72) rfl ?_
  refine g_l2i X348 hx (hb hby at_72) (z := p1) hp1 (q := 73) rfl ?_
  refine g_istore X348 hx (hb hby at_73) (L' := #[.val (.int a), .val (.int b), .val (.int c0), .val (.int t), .val (.int n), .val (.long xv), .second, .val (.long yv), .second, .val (.long zv), .second, .val (.long (own_minL (own_minL xv yv) zv)), .second, .val (.long (own_maxL (own_maxL xv yv) zv)), .second, .val (.long ((((xv + yv) + zv) - (own_minL (own_minL xv yv) zv)) - (own_maxL (own_maxL xv yv) zv))), .second, .val (.int p0), .val (.int p1), .unset, .unset, .unset, .unset]) rfl (q := 75) rfl ?_
  refine g_lload X348 hx (hb hby at_75) (v := (own_maxL (own_maxL xv yv) zv)) rfl (q := 77) rfl ?_
  refine g_l2i X348 hx (hb hby at_77) (z := p2) hp2 (q := 78) rfl ?_
  refine g_istore X348 hx (hb hby at_78) (L' := #[.val (.int a), .val (.int b), .val (.int c0), .val (.int t), .val (.int n), .val (.long xv), .second, .val (.long yv), .second, .val (.long zv), .second, .val (.long (own_minL (own_minL xv yv) zv)), .second, .val (.long (own_maxL (own_maxL xv yv) zv)), .second, .val (.long ((((xv + yv) + zv) - (own_minL (own_minL xv yv) zv)) - (own_maxL (own_maxL xv yv) zv))), .second, .val (.int p0), .val (.int p1), .val (.int p2), .unset, .unset, .unset]) rfl (q := 80) rfl ?_
  refine g_iload X348 hx (hb hby at_80) (v := n) rfl (q := 82) rfl ?_
  refine g_iconst X348 hx (hb hby at_82) (n := (3 : Int32)) (by decide) (q := 83) rfl ?_
  refine g_iand X348 hx (hb hby at_83) (z := (3 : Int32)) hk (q := 84) rfl ?_
  refine g_istore X348 hx (hb hby at_84) (L' := #[.val (.int a), .val (.int b), .val (.int c0), .val (.int t), .val (.int n), .val (.long xv), .second, .val (.long yv), .second, .val (.long zv), .second, .val (.long (own_minL (own_minL xv yv) zv)), .second, .val (.long (own_maxL (own_maxL xv yv) zv)), .second, .val (.long ((((xv + yv) + zv) - (own_minL (own_minL xv yv) zv)) - (own_maxL (own_maxL xv yv) zv))), .second, .val (.int p0), .val (.int p1), .val (.int p2), .val (.int (3 : Int32)), .unset, .unset]) rfl (q := 86) rfl ?_
  refine g_new X348 hx hZ hown (hw _ (List.mem_of_getElem? (i := 8) rfl)) (hw _ (List.mem_of_getElem? (i := 9) rfl)) (hw _ (List.mem_of_getElem? (i := 10) rfl)) e348 (hb hby at_86) (Nat.le_of_ble_eq_true rfl) (Nat.le_of_ble_eq_true rfl) (q := 89) rfl fun T349 h349 bi g349 X349 e349 E349 A349 D349 => ?_
  have ge_bi : n0 ≤ bi := Nat.le_trans Z0 (Nat.le_of_eq g349.symm)
  have z_349 := Nat.le_trans Z0 E349.1
  have F349_entries : Fld Z h349 bi "com/example/newlyn/newlyn/storage/SegmentIndex" "entries" "[J" .null := D349 (Or.inl (hw _ (List.mem_of_getElem? (i := 19) rfl))) (ty := (.array .long)) (by decide)
  have F349_count : Fld Z h349 bi "com/example/newlyn/newlyn/storage/SegmentIndex" "count" "I" (.int (0 : Int32)) := D349 (Or.inl (hw _ (List.mem_of_getElem? (i := 26) rfl))) (ty := .int) (by decide)
  refine g_dup X349 hx (hb hby at_89) rfl (q := 90) rfl ?_
  refine g_callI X349 hx hZ hown rfl (hw _ (List.mem_of_getElem? (i := 11) rfl)) (hw _ (List.mem_of_getElem? (i := 12) rfl)) (hw _ (List.mem_of_getElem? (i := 13) rfl)) (hw _ (List.mem_of_getElem? (i := 10) rfl)) (by decide) e349 (b := bi) (rmC l Z a0 hw bi h349 n0 z_349 ge_bi A349 F349_entries F349_count) (by exact hml.symm) (argsL := []) (rest := [(.ref bi)]) rfl rfl pd_3 rfl (Nat.le_of_ble_eq_true rfl) (Nat.le_of_ble_eq_true rfl) (Nat.le_of_ble_eq_true rfl) (Nat.le_of_ble_eq_true rfl) (hb hby at_90) (q := 93) rfl (fun v350 T350 L350 X350 hQ350 => ?_)
  generalize e350 : T350.heap = h350 at hQ350
  obtain ⟨rfl, M350, K350, A350, ae, g350, B350, C350, V350⟩ := hQ350
  have N350 := Fr.app (Fr.nil n0) M350
  have ne_bi_ae : bi ≠ ae := Nat.ne_of_lt (Nat.lt_of_lt_of_le A349.lt g350)
  have ge_ae : n0 ≤ ae := Nat.le_trans z_349 g350
  have Z350 : n0 ≤ h350.size := Nat.le_trans z_349 K350.1
  show Go p e below _ (T350.setTop (mkF m 93 #[.val (.int a), .val (.int b), .val (.int c0), .val (.int t), .val (.int n), .val (.long xv), .second, .val (.long yv), .second, .val (.long zv), .second, .val (.long (own_minL (own_minL xv yv) zv)), .second, .val (.long (own_maxL (own_maxL xv yv) zv)), .second, .val (.long ((((xv + yv) + zv) - (own_minL (own_minL xv yv) zv)) - (own_maxL (own_maxL xv yv) zv))), .second, .val (.int p0), .val (.int p1), .val (.int p2), .val (.int (3 : Int32)), .unset, .unset] [(.ref bi)]))
  refine g_astore X350 hx (hb hby at_93) rfl (L' := #[.val (.int a), .val (.int b), .val (.int c0), .val (.int t), .val (.int n), .val (.long xv), .second, .val (.long yv), .second, .val (.long zv), .second, .val (.long (own_minL (own_minL xv yv) zv)), .second, .val (.long (own_maxL (own_maxL xv yv) zv)), .second, .val (.long ((((xv + yv) + zv) - (own_minL (own_minL xv yv) zv)) - (own_maxL (own_maxL xv yv) zv))), .second, .val (.int p0), .val (.int p1), .val (.int p2), .val (.int (3 : Int32)), .val (.ref bi), .unset]) rfl (q := 95) rfl ?_
  refine g_iload X350 hx (hb hby at_95) (v := (3 : Int32)) rfl (q := 97) rfl ?_
  refine g_if_le X350 hx (hb hby at_97) (by decide) (q := 109) (by decide) (q2 := 100) rfl (fun hb97 => absurd hb97 (by decide)) (fun hb97 => ?_)
  refine g_aload X350 hx (hb hby at_100) (v := (.ref bi)) rfl rfl (q := 102) rfl ?_
  refine g_iconst X350 hx (hb hby at_102) (n := (0 : Int32)) (by decide) (q := 103) rfl ?_
  refine g_iload X350 hx (hb hby at_103) (v := p0) rfl (q := 105) rfl ?_
  refine g_lconst X350 hx (hb hby at_105) (n := (0 : Int64)) (by decide) (q := 106) rfl ?_
  refine g_callV X350 hx hZ hown (hw _ (List.mem_of_getElem? (i := 48) rfl)) (hw _ (List.mem_of_getElem? (i := 49) rfl)) (hw _ (List.mem_of_getElem? (i := 51) rfl)) (hw _ (List.mem_of_getElem? (i := 50) rfl)) (hw _ (List.mem_of_getElem? (i := 52) rfl)) (hw _ (List.mem_of_getElem? (i := 10) rfl)) (notFace_of_selects (args := #[]) (mvT hZ (hw _ (List.mem_of_getElem? (i := 51) rfl)))) (by decide) e350 A350 (rmA l Z a0 hw bi ae (0 : Int32) p0 (0 : Int64) (0 : Int32) (1 : Int32) (2 : Int32) (0 : Int32) (1 : Int32) (by decide) (by decide) (by decide) (by decide) (by decide) (fun _ => .long (0 : Int64)) h350 n0 (by decide) (by decide) (by decide) (by decide) ge_bi ge_ae ne_bi_ae A350 B350 C350 V350) (by exact hml.symm) (argsL := [(.int (0 : Int32)), (.int p0), (.long (0 : Int64))]) (rest := []) rfl rfl pd_7 rfl (Nat.le_of_ble_eq_true rfl) (Nat.le_of_ble_eq_true rfl) (Nat.le_of_ble_eq_true rfl) (Nat.le_of_ble_eq_true rfl) (hb hby at_106) (q := 109) rfl (fun v351 T351 L351 X351 hQ351 => ?_)
  generalize e351 : T351.heap = h351 at hQ351
  obtain ⟨rfl, M351, K351, A351, B351, C351, V351⟩ := hQ351
  have N351 := Fr.app N350 M351
  have Z351 : n0 ≤ h351.size := Nat.le_trans Z350 K351.1
  show Go p e below _ (T351.setTop (mkF m 109 #[.val (.int a), .val (.int b), .val (.int c0), .val (.int t), .val (.int n), .val (.long xv), .second, .val (.long yv), .second, .val (.long zv), .second, .val (.long (own_minL (own_minL xv yv) zv)), .second, .val (.long (own_maxL (own_maxL xv yv) zv)), .second, .val (.long ((((xv + yv) + zv) - (own_minL (own_minL xv yv) zv)) - (own_maxL (own_maxL xv yv) zv))), .second, .val (.int p0), .val (.int p1), .val (.int p2), .val (.int (3 : Int32)), .val (.ref bi), .unset] []))
  refine g_iload X351 hx (hb hby at_109) (v := (3 : Int32)) rfl (q := 111) rfl ?_
  refine g_iconst X351 hx (hb hby at_111) (n := (1 : Int32)) (by decide) (q := 112) rfl ?_
  refine g_icmp_le X351 hx (hb hby at_112) (by decide) (q := 124) (by decide) (q2 := 115) rfl (fun hb112 => absurd hb112 (by decide)) (fun hb112 => ?_)
  refine g_aload X351 hx (hb hby at_115) (v := (.ref bi)) rfl rfl (q := 117) rfl ?_
  refine g_iconst X351 hx (hb hby at_117) (n := (1 : Int32)) (by decide) (q := 118) rfl ?_
  refine g_iload X351 hx (hb hby at_118) (v := p1) rfl (q := 120) rfl ?_
  refine g_lconst X351 hx (hb hby at_120) (n := (1 : Int64)) (by decide) (q := 121) rfl ?_
  refine g_callV X351 hx hZ hown (hw _ (List.mem_of_getElem? (i := 48) rfl)) (hw _ (List.mem_of_getElem? (i := 49) rfl)) (hw _ (List.mem_of_getElem? (i := 51) rfl)) (hw _ (List.mem_of_getElem? (i := 50) rfl)) (hw _ (List.mem_of_getElem? (i := 52) rfl)) (hw _ (List.mem_of_getElem? (i := 10) rfl)) (notFace_of_selects (args := #[]) (mvT hZ (hw _ (List.mem_of_getElem? (i := 51) rfl)))) (by decide) e351 A351 (rmA l Z a0 hw bi ae (1 : Int32) p1 (1 : Int64) (1 : Int32) (2 : Int32) (4 : Int32) (2 : Int32) (3 : Int32) (by decide) (by decide) (by decide) (by decide) (by decide) (fun i => if i = (1 : Int32).toNatClampNeg then .long (0 : Int64) else if i = (0 : Int32).toNatClampNeg then .long (own_entry (0 : Int32) p0) else (fun _ => .long (0 : Int64)) i) h351 n0 (by decide) (by decide) (by decide) (by decide) ge_bi ge_ae ne_bi_ae A351 B351 C351 V351) (by exact hml.symm) (argsL := [(.int (1 : Int32)), (.int p1), (.long (1 : Int64))]) (rest := []) rfl rfl pd_7 rfl (Nat.le_of_ble_eq_true rfl) (Nat.le_of_ble_eq_true rfl) (Nat.le_of_ble_eq_true rfl) (Nat.le_of_ble_eq_true rfl) (hb hby at_121) (q := 124) rfl (fun v352 T352 L352 X352 hQ352 => ?_)
  generalize e352 : T352.heap = h352 at hQ352
  obtain ⟨rfl, M352, K352, A352, B352, C352, V352⟩ := hQ352
  have N352 := Fr.app N351 M352
  have Z352 : n0 ≤ h352.size := Nat.le_trans Z351 K352.1
  show Go p e below _ (T352.setTop (mkF m 124 #[.val (.int a), .val (.int b), .val (.int c0), .val (.int t), .val (.int n), .val (.long xv), .second, .val (.long yv), .second, .val (.long zv), .second, .val (.long (own_minL (own_minL xv yv) zv)), .second, .val (.long (own_maxL (own_maxL xv yv) zv)), .second, .val (.long ((((xv + yv) + zv) - (own_minL (own_minL xv yv) zv)) - (own_maxL (own_maxL xv yv) zv))), .second, .val (.int p0), .val (.int p1), .val (.int p2), .val (.int (3 : Int32)), .val (.ref bi), .unset] []))
  refine g_iload X352 hx (hb hby at_124) (v := (3 : Int32)) rfl (q := 126) rfl ?_
  refine g_iconst X352 hx (hb hby at_126) (n := (2 : Int32)) (by decide) (q := 127) rfl ?_
  refine g_icmp_le X352 hx (hb hby at_127) (by decide) (q := 141) (by decide) (q2 := 130) rfl (fun hb127 => absurd hb127 (by decide)) (fun hb127 => ?_)
  refine g_aload X352 hx (hb hby at_130) (v := (.ref bi)) rfl rfl (q := 132) rfl ?_
  refine g_iconst X352 hx (hb hby at_132) (n := (2 : Int32)) (by decide) (q := 133) rfl ?_
  refine g_iload X352 hx (hb hby at_133) (v := p2) rfl (q := 135) rfl ?_
  refine g_ldcJ X352 hx hZ hown (hw _ (List.mem_of_getElem? (i := 47) rfl)) (hb hby at_135) (q := 138) rfl ?_
  refine g_callV X352 hx hZ hown (hw _ (List.mem_of_getElem? (i := 48) rfl)) (hw _ (List.mem_of_getElem? (i := 49) rfl)) (hw _ (List.mem_of_getElem? (i := 51) rfl)) (hw _ (List.mem_of_getElem? (i := 50) rfl)) (hw _ (List.mem_of_getElem? (i := 52) rfl)) (hw _ (List.mem_of_getElem? (i := 10) rfl)) (notFace_of_selects (args := #[]) (mvT hZ (hw _ (List.mem_of_getElem? (i := 51) rfl)))) (by decide) e352 A352 (rmA l Z a0 hw bi ae (2 : Int32) p2 (2 : Int64) (2 : Int32) (3 : Int32) (6 : Int32) (4 : Int32) (5 : Int32) (by decide) (by decide) (by decide) (by decide) (by decide) (fun i => if i = (3 : Int32).toNatClampNeg then .long (1 : Int64) else if i = (2 : Int32).toNatClampNeg then .long (own_entry (1 : Int32) p1) else (fun i => if i = (1 : Int32).toNatClampNeg then .long (0 : Int64) else if i = (0 : Int32).toNatClampNeg then .long (own_entry (0 : Int32) p0) else (fun _ => .long (0 : Int64)) i) i) h352 n0 (by decide) (by decide) (by decide) (by decide) ge_bi ge_ae ne_bi_ae A352 B352 C352 V352) (by exact hml.symm) (argsL := [(.int (2 : Int32)), (.int p2), (.long (2 : Int64))]) (rest := []) rfl rfl pd_7 rfl (Nat.le_of_ble_eq_true rfl) (Nat.le_of_ble_eq_true rfl) (Nat.le_of_ble_eq_true rfl) (Nat.le_of_ble_eq_true rfl) (hb hby at_138) (q := 141) rfl (fun v353 T353 L353 X353 hQ353 => ?_)
  generalize e353 : T353.heap = h353 at hQ353
  obtain ⟨rfl, M353, K353, A353, B353, C353, V353⟩ := hQ353
  have N353 := Fr.app N352 M353
  have Z353 : n0 ≤ h353.size := Nat.le_trans Z352 K353.1
  show Go p e below _ (T353.setTop (mkF m 141 #[.val (.int a), .val (.int b), .val (.int c0), .val (.int t), .val (.int n), .val (.long xv), .second, .val (.long yv), .second, .val (.long zv), .second, .val (.long (own_minL (own_minL xv yv) zv)), .second, .val (.long (own_maxL (own_maxL xv yv) zv)), .second, .val (.long ((((xv + yv) + zv) - (own_minL (own_minL xv yv) zv)) - (own_maxL (own_maxL xv yv) zv))), .second, .val (.int p0), .val (.int p1), .val (.int p2), .val (.int (3 : Int32)), .val (.ref bi), .unset] []))
  refine g_aload X353 hx (hb hby at_141) (v := (.ref bi)) rfl rfl (q := 143) rfl ?_
  refine g_iloadN X353 hx (hb hby at_143) (v := t) rfl (q := 144) rfl ?_
  have q0 : ((fun i => if i = (5 : Int32).toNatClampNeg then .long (2 : Int64) else if i = (4 : Int32).toNatClampNeg then .long (own_entry (2 : Int32) p2) else (fun i => if i = (3 : Int32).toNatClampNeg then .long (1 : Int64) else if i = (2 : Int32).toNatClampNeg then .long (own_entry (1 : Int32) p1) else (fun i => if i = (1 : Int32).toNatClampNeg then .long (0 : Int64) else if i = (0 : Int32).toNatClampNeg then .long (own_entry (0 : Int32) p0) else (fun _ => .long (0 : Int64)) i) i) i) : Nat → Value) (0 : Int32).toNatClampNeg = .long (own_entry (0 : Int32) p0) := by rfl
  have r0 := own_entry_pos (0 : Int32) p0 (by decide) g0
  have o0 : own_off (own_entry (0 : Int32) p0) = (0 : Int64) := (own_entry_off (0 : Int32) p0 (by decide) g0).trans (by decide)
  have q1 : ((fun i => if i = (5 : Int32).toNatClampNeg then .long (2 : Int64) else if i = (4 : Int32).toNatClampNeg then .long (own_entry (2 : Int32) p2) else (fun i => if i = (3 : Int32).toNatClampNeg then .long (1 : Int64) else if i = (2 : Int32).toNatClampNeg then .long (own_entry (1 : Int32) p1) else (fun i => if i = (1 : Int32).toNatClampNeg then .long (0 : Int64) else if i = (0 : Int32).toNatClampNeg then .long (own_entry (0 : Int32) p0) else (fun _ => .long (0 : Int64)) i) i) i) : Nat → Value) (2 : Int32).toNatClampNeg = .long (own_entry (1 : Int32) p1) := by rfl
  have r1 := own_entry_pos (1 : Int32) p1 (by decide) g1
  have o1 : own_off (own_entry (1 : Int32) p1) = (1 : Int64) := (own_entry_off (1 : Int32) p1 (by decide) g1).trans (by decide)
  have q2 : ((fun i => if i = (5 : Int32).toNatClampNeg then .long (2 : Int64) else if i = (4 : Int32).toNatClampNeg then .long (own_entry (2 : Int32) p2) else (fun i => if i = (3 : Int32).toNatClampNeg then .long (1 : Int64) else if i = (2 : Int32).toNatClampNeg then .long (own_entry (1 : Int32) p1) else (fun i => if i = (1 : Int32).toNatClampNeg then .long (0 : Int64) else if i = (0 : Int32).toNatClampNeg then .long (own_entry (0 : Int32) p0) else (fun _ => .long (0 : Int64)) i) i) i) : Nat → Value) (4 : Int32).toNatClampNeg = .long (own_entry (2 : Int32) p2) := by rfl
  have r2 := own_entry_pos (2 : Int32) p2 (by decide) g2
  have o2 : own_off (own_entry (2 : Int32) p2) = (2 : Int64) := (own_entry_off (2 : Int32) p2 (by decide) g2).trans (by decide)
  refine g_callV X353 hx hZ hown (hw _ (List.mem_of_getElem? (i := 20) rfl)) (hw _ (List.mem_of_getElem? (i := 21) rfl)) (hw _ (List.mem_of_getElem? (i := 23) rfl)) (hw _ (List.mem_of_getElem? (i := 22) rfl)) (hw _ (List.mem_of_getElem? (i := 24) rfl)) (hw _ (List.mem_of_getElem? (i := 10) rfl)) (notFace_of_selects (args := #[]) (mvT hZ (hw _ (List.mem_of_getElem? (i := 23) rfl)))) (by decide) e353 A353 (rmT3 l Z a0 hw bi ae t p0 p1 p2 (own_entry (0 : Int32) p0) (own_entry (1 : Int32) p1) (own_entry (2 : Int32) p2) (fun i => if i = (5 : Int32).toNatClampNeg then .long (2 : Int64) else if i = (4 : Int32).toNatClampNeg then .long (own_entry (2 : Int32) p2) else (fun i => if i = (3 : Int32).toNatClampNeg then .long (1 : Int64) else if i = (2 : Int32).toNatClampNeg then .long (own_entry (1 : Int32) p1) else (fun i => if i = (1 : Int32).toNatClampNeg then .long (0 : Int64) else if i = (0 : Int32).toNatClampNeg then .long (own_entry (0 : Int32) p0) else (fun _ => .long (0 : Int64)) i) i) i) h353 n0 ge_bi ne_bi_ae A353 B353 C353 V353 q0 r0 q1 r1 q2 r2) (by exact hml.symm) (argsL := [(.int t)]) (rest := []) rfl rfl pd_4 rfl (Nat.le_of_ble_eq_true rfl) (Nat.le_of_ble_eq_true rfl) (Nat.le_of_ble_eq_true rfl) (Nat.le_of_ble_eq_true rfl) (hb hby at_144) (q := 147) rfl (fun v354 T354 L354 X354 hQ354 => ?_)
  generalize e354 : T354.heap = h354 at hQ354
  obtain ⟨rfl, M354, K354, A354, B354, C354⟩ := hQ354
  have N354 := Fr.app N353 M354
  have Z354 : n0 ≤ h354.size := Nat.le_trans Z353 K354.1
  have V354 := V353.keep K354 (ninS (Ne.symm ne_bi_ae) nin0)
  rw [show own_tr3 t p0 p1 p2 = (0 : Int32) from by rw [own_tr3, if_neg lt2, if_neg lt1, if_neg lt0]] at C354
  show Go p e below _ (T354.setTop (mkF m 147 #[.val (.int a), .val (.int b), .val (.int c0), .val (.int t), .val (.int n), .val (.long xv), .second, .val (.long yv), .second, .val (.long zv), .second, .val (.long (own_minL (own_minL xv yv) zv)), .second, .val (.long (own_maxL (own_maxL xv yv) zv)), .second, .val (.long ((((xv + yv) + zv) - (own_minL (own_minL xv yv) zv)) - (own_maxL (own_maxL xv yv) zv))), .second, .val (.int p0), .val (.int p1), .val (.int p2), .val (.int (3 : Int32)), .val (.ref bi), .unset] []))
  refine g_iconst X354 hx (hb hby at_147) (n := (0 : Int32)) (by decide) (q := 148) rfl ?_
  refine g_istore X354 hx (hb hby at_148) (L' := #[.val (.int a), .val (.int b), .val (.int c0), .val (.int t), .val (.int n), .val (.long xv), .second, .val (.long yv), .second, .val (.long zv), .second, .val (.long (own_minL (own_minL xv yv) zv)), .second, .val (.long (own_maxL (own_maxL xv yv) zv)), .second, .val (.long ((((xv + yv) + zv) - (own_minL (own_minL xv yv) zv)) - (own_maxL (own_maxL xv yv) zv))), .second, .val (.int p0), .val (.int p1), .val (.int p2), .val (.int (3 : Int32)), .val (.ref bi), .val (.int (0 : Int32))]) rfl (q := 150) rfl ?_
  refine g_iload X354 hx (hb hby at_150) (v := (3 : Int32)) rfl (q := 152) rfl ?_
  refine g_if_le X354 hx (hb hby at_152) (by decide) (q := 164) (by decide) (q2 := 155) rfl (fun hb152 => absurd hb152 (by decide)) (fun hb152 => ?_)
  refine g_iload X354 hx (hb hby at_155) (v := p0) rfl (q := 157) rfl ?_
  refine g_iloadN X354 hx (hb hby at_157) (v := t) rfl (q := 158) rfl ?_
  refine g_icmp_ge X354 hx (hb hby at_158) (by decide) (q := 164) (by decide) (q2 := 161) rfl (fun hb158 => ?_) (fun hb158 => absurd hb158 lt0)
  refine g_iload X354 hx (hb hby at_164) (v := (0 : Int32)) rfl (q := 166) rfl ?_
  refine g_iconst X354 hx (hb hby at_166) (n := (1 : Int32)) (by decide) (q := 167) rfl ?_
  refine g_icmp_ne X354 hx (hb hby at_167) (by decide) (q := 185) (by decide) (q2 := 170) rfl (fun hb167 => ?_) (fun hb167 => absurd hb167 (by decide))
  refine g_iload X354 hx (hb hby at_185) (v := (0 : Int32)) rfl (q := 187) rfl ?_
  refine g_iconst X354 hx (hb hby at_187) (n := (2 : Int32)) (by decide) (q := 188) rfl ?_
  refine g_icmp_ne X354 hx (hb hby at_188) (by decide) (q := 206) (by decide) (q2 := 191) rfl (fun hb188 => ?_) (fun hb188 => absurd hb188 (by decide))
  refine g_aload X354 hx (hb hby at_206) (v := (.ref bi)) rfl rfl (q := 208) rfl ?_
  refine g_lconst X354 hx (hb hby at_208) (n := (0 : Int64)) (by decide) (q := 209) rfl ?_
  refine g_callVH X354 hx hH hown (hw _ (List.mem_of_getElem? (i := 27) rfl)) (hw _ (List.mem_of_getElem? (i := 28) rfl)) (hw _ (List.mem_of_getElem? (i := 30) rfl)) (hw _ (List.mem_of_getElem? (i := 29) rfl)) (hw _ (List.mem_of_getElem? (i := 31) rfl)) (hw _ (List.mem_of_getElem? (i := 10) rfl)) (notFace_of_selects (args := #[]) (mvT hZ (hw _ (List.mem_of_getElem? (i := 30) rfl)))) (by decide) e354 A354 (rmF00 l Z a0 hw bi ae (fun i => if i = (5 : Int32).toNatClampNeg then .long (2 : Int64) else if i = (4 : Int32).toNatClampNeg then .long (own_entry (2 : Int32) p2) else (fun i => if i = (3 : Int32).toNatClampNeg then .long (1 : Int64) else if i = (2 : Int32).toNatClampNeg then .long (own_entry (1 : Int32) p1) else (fun i => if i = (1 : Int32).toNatClampNeg then .long (0 : Int64) else if i = (0 : Int32).toNatClampNeg then .long (own_entry (0 : Int32) p0) else (fun _ => .long (0 : Int64)) i) i) i) h354 A354 B354 C354 V354) (by exact hml.symm) (argsL := [(.long (0 : Int64))]) (rest := []) rfl rfl pd_5 rfl (Nat.le_of_ble_eq_true rfl) (Nat.le_of_ble_eq_true rfl) (Nat.le_of_ble_eq_true rfl) (Nat.le_of_ble_eq_true rfl) (hb hby at_209) (q := 212) rfl (fun v355 T355 L355 X355 hQ355 => ?_)
  generalize e355 : T355.heap = h355 at hQ355
  obtain ⟨rfl, rfl, E355⟩ := hQ355
  have z_355 := Nat.le_trans Z354 E355.1
  have f356 := (A354.ext E355)
  have f357 := (B354.ext E355)
  have f358 := (C354.ext E355)
  have f359 := (V354.ext E355)
  have N355 := Fr.app N354 (Fr.nil n0)
  show Go p e below _ (T355.setTop (mkF m 212 #[.val (.int a), .val (.int b), .val (.int c0), .val (.int t), .val (.int n), .val (.long xv), .second, .val (.long yv), .second, .val (.long zv), .second, .val (.long (own_minL (own_minL xv yv) zv)), .second, .val (.long (own_maxL (own_maxL xv yv) zv)), .second, .val (.long ((((xv + yv) + zv) - (own_minL (own_minL xv yv) zv)) - (own_maxL (own_maxL xv yv) zv))), .second, .val (.int p0), .val (.int p1), .val (.int p2), .val (.int (3 : Int32)), .val (.ref bi), .val (.int (0 : Int32))] [(.int (0 : Int32))]))
  refine g_iconst X355 hx (hb hby at_212) (n := (0 : Int32)) (by decide) (q := 213) rfl ?_
  refine g_iload X355 hx (hb hby at_213) (v := (0 : Int32)) rfl (q := 215) rfl ?_
  refine g_iload X355 hx (hb hby at_215) (v := p0) rfl (q := 217) rfl ?_
  refine g_iload X355 hx (hb hby at_217) (v := p1) rfl (q := 219) rfl ?_
  refine g_iload X355 hx (hb hby at_219) (v := p2) rfl (q := 221) rfl ?_
  refine g_callS X355 hx hZ hown (hw _ (List.mem_of_getElem? (i := 40) rfl)) (hw _ (List.mem_of_getElem? (i := 41) rfl)) (hw _ (List.mem_of_getElem? (i := 42) rfl)) (hw _ (List.mem_of_getElem? (i := 43) rfl)) (by decide) e355 (rmX l Z a0 hw (0 : Int32) (0 : Int32) p0 p1 p2 (0 : Int32) (own_exp_00 p0 p1 p2) h355) (by exact hml.symm) (argsL := [(.int (0 : Int32)), (.int (0 : Int32)), (.int p0), (.int p1), (.int p2)]) (rest := [(.int (0 : Int32))]) rfl rfl pd_6 rfl (Nat.le_of_ble_eq_true rfl) (Nat.le_of_ble_eq_true rfl) (Nat.le_of_ble_eq_true rfl) (Nat.le_of_ble_eq_true rfl) (hb hby at_221) (q := 224) rfl (g_pure rfl rfl fun T360 X360 e360 => ?_)
  show Go p e below _ (T360.setTop (mkF m 224 #[.val (.int a), .val (.int b), .val (.int c0), .val (.int t), .val (.int n), .val (.long xv), .second, .val (.long yv), .second, .val (.long zv), .second, .val (.long (own_minL (own_minL xv yv) zv)), .second, .val (.long (own_maxL (own_maxL xv yv) zv)), .second, .val (.long ((((xv + yv) + zv) - (own_minL (own_minL xv yv) zv)) - (own_maxL (own_maxL xv yv) zv))), .second, .val (.int p0), .val (.int p1), .val (.int p2), .val (.int (3 : Int32)), .val (.ref bi), .val (.int (0 : Int32))] [(.int (0 : Int32)), (.int (0 : Int32))]))
  refine g_icmp_ne X360 hx (hb hby at_224) (by decide) (q := 275) (by decide) (q2 := 227) rfl (fun hb224 => absurd hb224 (not_not_intro rfl)) (fun hb224 => ?_)
  refine g_aload X360 hx (hb hby at_227) (v := (.ref bi)) rfl rfl (q := 229) rfl ?_
  refine g_lconst X360 hx (hb hby at_229) (n := (1 : Int64)) (by decide) (q := 230) rfl ?_
  refine g_callVH X360 hx hH hown (hw _ (List.mem_of_getElem? (i := 27) rfl)) (hw _ (List.mem_of_getElem? (i := 28) rfl)) (hw _ (List.mem_of_getElem? (i := 30) rfl)) (hw _ (List.mem_of_getElem? (i := 29) rfl)) (hw _ (List.mem_of_getElem? (i := 31) rfl)) (hw _ (List.mem_of_getElem? (i := 10) rfl)) (notFace_of_selects (args := #[]) (mvT hZ (hw _ (List.mem_of_getElem? (i := 30) rfl)))) (by decide) e360 f356 (rmF01 l Z a0 hw bi ae (fun i => if i = (5 : Int32).toNatClampNeg then .long (2 : Int64) else if i = (4 : Int32).toNatClampNeg then .long (own_entry (2 : Int32) p2) else (fun i => if i = (3 : Int32).toNatClampNeg then .long (1 : Int64) else if i = (2 : Int32).toNatClampNeg then .long (own_entry (1 : Int32) p1) else (fun i => if i = (1 : Int32).toNatClampNeg then .long (0 : Int64) else if i = (0 : Int32).toNatClampNeg then .long (own_entry (0 : Int32) p0) else (fun _ => .long (0 : Int64)) i) i) i) h355 f356 f357 f358 f359) (by exact hml.symm) (argsL := [(.long (1 : Int64))]) (rest := []) rfl rfl pd_5 rfl (Nat.le_of_ble_eq_true rfl) (Nat.le_of_ble_eq_true rfl) (Nat.le_of_ble_eq_true rfl) (Nat.le_of_ble_eq_true rfl) (hb hby at_230) (q := 233) rfl (fun v361 T361 L361 X361 hQ361 => ?_)
  generalize e361 : T361.heap = h361 at hQ361
  obtain ⟨rfl, rfl, E361⟩ := hQ361
  have z_361 := Nat.le_trans z_355 E361.1
  have f362 := (f356.ext E361)
  have f363 := (f357.ext E361)
  have f364 := (f358.ext E361)
  have f365 := (f359.ext E361)
  have N361 := Fr.app N355 (Fr.nil n0)
  show Go p e below _ (T361.setTop (mkF m 233 #[.val (.int a), .val (.int b), .val (.int c0), .val (.int t), .val (.int n), .val (.long xv), .second, .val (.long yv), .second, .val (.long zv), .second, .val (.long (own_minL (own_minL xv yv) zv)), .second, .val (.long (own_maxL (own_maxL xv yv) zv)), .second, .val (.long ((((xv + yv) + zv) - (own_minL (own_minL xv yv) zv)) - (own_maxL (own_maxL xv yv) zv))), .second, .val (.int p0), .val (.int p1), .val (.int p2), .val (.int (3 : Int32)), .val (.ref bi), .val (.int (0 : Int32))] [(.int (0 : Int32))]))
  refine g_iconst X361 hx (hb hby at_233) (n := (1 : Int32)) (by decide) (q := 234) rfl ?_
  refine g_iload X361 hx (hb hby at_234) (v := (0 : Int32)) rfl (q := 236) rfl ?_
  refine g_iload X361 hx (hb hby at_236) (v := p0) rfl (q := 238) rfl ?_
  refine g_iload X361 hx (hb hby at_238) (v := p1) rfl (q := 240) rfl ?_
  refine g_iload X361 hx (hb hby at_240) (v := p2) rfl (q := 242) rfl ?_
  refine g_callS X361 hx hZ hown (hw _ (List.mem_of_getElem? (i := 40) rfl)) (hw _ (List.mem_of_getElem? (i := 41) rfl)) (hw _ (List.mem_of_getElem? (i := 42) rfl)) (hw _ (List.mem_of_getElem? (i := 43) rfl)) (by decide) e361 (rmX l Z a0 hw (1 : Int32) (0 : Int32) p0 p1 p2 (0 : Int32) (own_exp_10 p0 p1 p2) h361) (by exact hml.symm) (argsL := [(.int (1 : Int32)), (.int (0 : Int32)), (.int p0), (.int p1), (.int p2)]) (rest := [(.int (0 : Int32))]) rfl rfl pd_6 rfl (Nat.le_of_ble_eq_true rfl) (Nat.le_of_ble_eq_true rfl) (Nat.le_of_ble_eq_true rfl) (Nat.le_of_ble_eq_true rfl) (hb hby at_242) (q := 245) rfl (g_pure rfl rfl fun T366 X366 e366 => ?_)
  show Go p e below _ (T366.setTop (mkF m 245 #[.val (.int a), .val (.int b), .val (.int c0), .val (.int t), .val (.int n), .val (.long xv), .second, .val (.long yv), .second, .val (.long zv), .second, .val (.long (own_minL (own_minL xv yv) zv)), .second, .val (.long (own_maxL (own_maxL xv yv) zv)), .second, .val (.long ((((xv + yv) + zv) - (own_minL (own_minL xv yv) zv)) - (own_maxL (own_maxL xv yv) zv))), .second, .val (.int p0), .val (.int p1), .val (.int p2), .val (.int (3 : Int32)), .val (.ref bi), .val (.int (0 : Int32))] [(.int (0 : Int32)), (.int (0 : Int32))]))
  refine g_icmp_ne X366 hx (hb hby at_245) (by decide) (q := 275) (by decide) (q2 := 248) rfl (fun hb245 => absurd hb245 (not_not_intro rfl)) (fun hb245 => ?_)
  refine g_aload X366 hx (hb hby at_248) (v := (.ref bi)) rfl rfl (q := 250) rfl ?_
  refine g_ldcJ X366 hx hZ hown (hw _ (List.mem_of_getElem? (i := 47) rfl)) (hb hby at_250) (q := 253) rfl ?_
  refine g_callVH X366 hx hH hown (hw _ (List.mem_of_getElem? (i := 27) rfl)) (hw _ (List.mem_of_getElem? (i := 28) rfl)) (hw _ (List.mem_of_getElem? (i := 30) rfl)) (hw _ (List.mem_of_getElem? (i := 29) rfl)) (hw _ (List.mem_of_getElem? (i := 31) rfl)) (hw _ (List.mem_of_getElem? (i := 10) rfl)) (notFace_of_selects (args := #[]) (mvT hZ (hw _ (List.mem_of_getElem? (i := 30) rfl)))) (by decide) e366 f362 (rmF02 l Z a0 hw bi ae (fun i => if i = (5 : Int32).toNatClampNeg then .long (2 : Int64) else if i = (4 : Int32).toNatClampNeg then .long (own_entry (2 : Int32) p2) else (fun i => if i = (3 : Int32).toNatClampNeg then .long (1 : Int64) else if i = (2 : Int32).toNatClampNeg then .long (own_entry (1 : Int32) p1) else (fun i => if i = (1 : Int32).toNatClampNeg then .long (0 : Int64) else if i = (0 : Int32).toNatClampNeg then .long (own_entry (0 : Int32) p0) else (fun _ => .long (0 : Int64)) i) i) i) h361 f362 f363 f364 f365) (by exact hml.symm) (argsL := [(.long (2 : Int64))]) (rest := []) rfl rfl pd_5 rfl (Nat.le_of_ble_eq_true rfl) (Nat.le_of_ble_eq_true rfl) (Nat.le_of_ble_eq_true rfl) (Nat.le_of_ble_eq_true rfl) (hb hby at_253) (q := 256) rfl (fun v367 T367 L367 X367 hQ367 => ?_)
  generalize e367 : T367.heap = h367 at hQ367
  obtain ⟨rfl, rfl, E367⟩ := hQ367
  have z_367 := Nat.le_trans z_361 E367.1
  have f368 := (f362.ext E367)
  have f369 := (f363.ext E367)
  have f370 := (f364.ext E367)
  have f371 := (f365.ext E367)
  have N367 := Fr.app N361 (Fr.nil n0)
  show Go p e below _ (T367.setTop (mkF m 256 #[.val (.int a), .val (.int b), .val (.int c0), .val (.int t), .val (.int n), .val (.long xv), .second, .val (.long yv), .second, .val (.long zv), .second, .val (.long (own_minL (own_minL xv yv) zv)), .second, .val (.long (own_maxL (own_maxL xv yv) zv)), .second, .val (.long ((((xv + yv) + zv) - (own_minL (own_minL xv yv) zv)) - (own_maxL (own_maxL xv yv) zv))), .second, .val (.int p0), .val (.int p1), .val (.int p2), .val (.int (3 : Int32)), .val (.ref bi), .val (.int (0 : Int32))] [(.int (0 : Int32))]))
  refine g_iconst X367 hx (hb hby at_256) (n := (2 : Int32)) (by decide) (q := 257) rfl ?_
  refine g_iload X367 hx (hb hby at_257) (v := (0 : Int32)) rfl (q := 259) rfl ?_
  refine g_iload X367 hx (hb hby at_259) (v := p0) rfl (q := 261) rfl ?_
  refine g_iload X367 hx (hb hby at_261) (v := p1) rfl (q := 263) rfl ?_
  refine g_iload X367 hx (hb hby at_263) (v := p2) rfl (q := 265) rfl ?_
  refine g_callS X367 hx hZ hown (hw _ (List.mem_of_getElem? (i := 40) rfl)) (hw _ (List.mem_of_getElem? (i := 41) rfl)) (hw _ (List.mem_of_getElem? (i := 42) rfl)) (hw _ (List.mem_of_getElem? (i := 43) rfl)) (by decide) e367 (rmX l Z a0 hw (2 : Int32) (0 : Int32) p0 p1 p2 (0 : Int32) (own_exp_20 p0 p1 p2) h367) (by exact hml.symm) (argsL := [(.int (2 : Int32)), (.int (0 : Int32)), (.int p0), (.int p1), (.int p2)]) (rest := [(.int (0 : Int32))]) rfl rfl pd_6 rfl (Nat.le_of_ble_eq_true rfl) (Nat.le_of_ble_eq_true rfl) (Nat.le_of_ble_eq_true rfl) (Nat.le_of_ble_eq_true rfl) (hb hby at_265) (q := 268) rfl (g_pure rfl rfl fun T372 X372 e372 => ?_)
  show Go p e below _ (T372.setTop (mkF m 268 #[.val (.int a), .val (.int b), .val (.int c0), .val (.int t), .val (.int n), .val (.long xv), .second, .val (.long yv), .second, .val (.long zv), .second, .val (.long (own_minL (own_minL xv yv) zv)), .second, .val (.long (own_maxL (own_maxL xv yv) zv)), .second, .val (.long ((((xv + yv) + zv) - (own_minL (own_minL xv yv) zv)) - (own_maxL (own_maxL xv yv) zv))), .second, .val (.int p0), .val (.int p1), .val (.int p2), .val (.int (3 : Int32)), .val (.ref bi), .val (.int (0 : Int32))] [(.int (0 : Int32)), (.int (0 : Int32))]))
  refine g_icmp_ne X372 hx (hb hby at_268) (by decide) (q := 275) (by decide) (q2 := 271) rfl (fun hb268 => absurd hb268 (not_not_intro rfl)) (fun hb268 => ?_)
  refine g_iconst X372 hx (hb hby at_271) (n := (1 : Int32)) (by decide) (q := 272) rfl ?_
  refine g_goto X372 hx (hb hby at_272) (by decide) (q := 276) (by decide) ?_
  exact g_retB X372 hx hret hlk (hb hby at_276) (by decide) ⟨rfl, by simpa using N367⟩ (Nat.le_of_ble_eq_true rfl) (Nat.le_of_ble_eq_true rfl)
set_option maxRecDepth 65536 in
set_option maxHeartbeats 40000000 in
theorem law31 (l : Launch) (Z : State) (a0 : Array Value) (hw : ∀ d ∈ tables_1, d.before a0 Z = true) (a b c0 t n : Int32) (xv yv zv : Int64) (p0 p1 p2 : Int32) (h0 : Heap) (n0 : Nat) (Z0 : n0 ≤ h0.size) (hx1 : (a &&& (2147483647 : Int32)).toInt64 = xv) (hy1 : (b &&& (2147483647 : Int32)).toInt64 = yv) (hz1 : (c0 &&& (2147483647 : Int32)).toInt64 = zv) (hp0 : (own_minL (own_minL xv yv) zv).toInt32 = p0) (hp1 : ((((xv + yv) + zv) - (own_minL (own_minL xv yv) zv)) - (own_maxL (own_maxL xv yv) zv)).toInt32 = p1) (hp2 : (own_maxL (own_maxL xv yv) zv).toInt32 = p2) (g0 : ¬ p0 < 0) (g1 : ¬ p1 < 0) (g2 : ¬ p2 < 0) (hk : n &&& (3 : Int32) = 3) (lt0 : p0 < t) (lt1 : ¬ p1 < t) (lt2 : ¬ p2 < t) :
    ConH l Z h0 x code maxLocals ret room_1 #[(.int a), (.int b), (.int c0), (.int t), (.int n)] (fun v h L => v = some (.int 1) ∧ Fr n0 L) := by
  refine con_ofH (plainFor_of_name pn_0) (Ls := #[.val (.int a), .val (.int b), .val (.int c0), .val (.int t), .val (.int n), .unset, .unset, .unset, .unset, .unset, .unset, .unset, .unset, .unset, .unset, .unset, .unset, .unset, .unset, .unset, .unset, .unset, .unset]) (fun m => by first | (simp [entryFrame, mkF, argsToLocals, Value.category, maxLocals]; done) | rfl) ?_
  intro p e s m below meth c s₁ hx hH hby hml hret hlk hnm hown hnamed X0 e0
  have hZ := hH.wide
  refine g_iloadN X0 hx (hb hby at_0) (v := a) rfl (q := 1) rfl ?_
  refine g_ldcI X0 hx hZ hown (hw _ (List.mem_of_getElem? (i := 0) rfl)) (hb hby at_1) (q := 3) rfl ?_
  refine g_iand X0 hx (hb hby at_3) (z := (a &&& (2147483647 : Int32))) rfl (q := 4) rfl ?_
  refine g_i2l X0 hx (hb hby at_4) (z := xv) hx1 (q := 5) rfl ?_
  refine g_lstore X0 hx (hb hby at_5) (L' := #[.val (.int a), .val (.int b), .val (.int c0), .val (.int t), .val (.int n), .val (.long xv), .second, .unset, .unset, .unset, .unset, .unset, .unset, .unset, .unset, .unset, .unset, .unset, .unset, .unset, .unset, .unset, .unset]) rfl (q := 7) rfl ?_
  refine g_iloadN X0 hx (hb hby at_7) (v := b) rfl (q := 8) rfl ?_
  refine g_ldcI X0 hx hZ hown (hw _ (List.mem_of_getElem? (i := 0) rfl)) (hb hby at_8) (q := 10) rfl ?_
  refine g_iand X0 hx (hb hby at_10) (z := (b &&& (2147483647 : Int32))) rfl (q := 11) rfl ?_
  refine g_i2l X0 hx (hb hby at_11) (z := yv) hy1 (q := 12) rfl ?_
  refine g_lstore X0 hx (hb hby at_12) (L' := #[.val (.int a), .val (.int b), .val (.int c0), .val (.int t), .val (.int n), .val (.long xv), .second, .val (.long yv), .second, .unset, .unset, .unset, .unset, .unset, .unset, .unset, .unset, .unset, .unset, .unset, .unset, .unset, .unset]) rfl (q := 14) rfl ?_
  refine g_iloadN X0 hx (hb hby at_14) (v := c0) rfl (q := 15) rfl ?_
  refine g_ldcI X0 hx hZ hown (hw _ (List.mem_of_getElem? (i := 0) rfl)) (hb hby at_15) (q := 17) rfl ?_
  refine g_iand X0 hx (hb hby at_17) (z := (c0 &&& (2147483647 : Int32))) rfl (q := 18) rfl ?_
  refine g_i2l X0 hx (hb hby at_18) (z := zv) hz1 (q := 19) rfl ?_
  refine g_lstore X0 hx (hb hby at_19) (L' := #[.val (.int a), .val (.int b), .val (.int c0), .val (.int t), .val (.int n), .val (.long xv), .second, .val (.long yv), .second, .val (.long zv), .second, .unset, .unset, .unset, .unset, .unset, .unset, .unset, .unset, .unset, .unset, .unset, .unset]) rfl (q := 21) rfl ?_
  refine g_lload X0 hx (hb hby at_21) (v := xv) rfl (q := 23) rfl ?_
  refine g_lload X0 hx (hb hby at_23) (v := yv) rfl (q := 25) rfl ?_
  refine g_callS X0 hx hZ hown (hw _ (List.mem_of_getElem? (i := 1) rfl)) (hw _ (List.mem_of_getElem? (i := 2) rfl)) (hw _ (List.mem_of_getElem? (i := 3) rfl)) (hw _ (List.mem_of_getElem? (i := 4) rfl)) (by decide) e0 (rmMinL l Z a0 hw xv yv h0) (by exact hml.symm) (argsL := [(.long xv), (.long yv)]) (rest := []) rfl rfl pd_2 rfl (Nat.le_of_ble_eq_true rfl) (Nat.le_of_ble_eq_true rfl) (Nat.le_of_ble_eq_true rfl) (Nat.le_of_ble_eq_true rfl) (hb hby at_25) (q := 28) rfl (g_pure rfl rfl fun T373 X373 e373 => ?_)
  show Go p e below _ (T373.setTop (mkF m 28 #[.val (.int a), .val (.int b), .val (.int c0), .val (.int t), .val (.int n), .val (.long xv), .second, .val (.long yv), .second, .val (.long zv), .second, .unset, .unset, .unset, .unset, .unset, .unset, .unset, .unset, .unset, .unset, .unset, .unset] [(.long (own_minL xv yv))]))
  refine g_lload X373 hx (hb hby at_28) (v := zv) rfl (q := 30) rfl ?_
  refine g_callS X373 hx hZ hown (hw _ (List.mem_of_getElem? (i := 1) rfl)) (hw _ (List.mem_of_getElem? (i := 2) rfl)) (hw _ (List.mem_of_getElem? (i := 3) rfl)) (hw _ (List.mem_of_getElem? (i := 4) rfl)) (by decide) e373 (rmMinL l Z a0 hw (own_minL xv yv) zv h0) (by exact hml.symm) (argsL := [(.long (own_minL xv yv)), (.long zv)]) (rest := []) rfl rfl pd_2 rfl (Nat.le_of_ble_eq_true rfl) (Nat.le_of_ble_eq_true rfl) (Nat.le_of_ble_eq_true rfl) (Nat.le_of_ble_eq_true rfl) (hb hby at_30) (q := 33) rfl (g_pure rfl rfl fun T374 X374 e374 => ?_)
  show Go p e below _ (T374.setTop (mkF m 33 #[.val (.int a), .val (.int b), .val (.int c0), .val (.int t), .val (.int n), .val (.long xv), .second, .val (.long yv), .second, .val (.long zv), .second, .unset, .unset, .unset, .unset, .unset, .unset, .unset, .unset, .unset, .unset, .unset, .unset] [(.long (own_minL (own_minL xv yv) zv))]))
  refine g_lstore X374 hx (hb hby at_33) (L' := #[.val (.int a), .val (.int b), .val (.int c0), .val (.int t), .val (.int n), .val (.long xv), .second, .val (.long yv), .second, .val (.long zv), .second, .val (.long (own_minL (own_minL xv yv) zv)), .second, .unset, .unset, .unset, .unset, .unset, .unset, .unset, .unset, .unset, .unset]) rfl (q := 35) rfl ?_
  refine g_lload X374 hx (hb hby at_35) (v := xv) rfl (q := 37) rfl ?_
  refine g_lload X374 hx (hb hby at_37) (v := yv) rfl (q := 39) rfl ?_
  refine g_callS X374 hx hZ hown (hw _ (List.mem_of_getElem? (i := 5) rfl)) (hw _ (List.mem_of_getElem? (i := 6) rfl)) (hw _ (List.mem_of_getElem? (i := 3) rfl)) (hw _ (List.mem_of_getElem? (i := 7) rfl)) (by decide) e374 (rmMaxL l Z a0 hw xv yv h0) (by exact hml.symm) (argsL := [(.long xv), (.long yv)]) (rest := []) rfl rfl pd_2 rfl (Nat.le_of_ble_eq_true rfl) (Nat.le_of_ble_eq_true rfl) (Nat.le_of_ble_eq_true rfl) (Nat.le_of_ble_eq_true rfl) (hb hby at_39) (q := 42) rfl (g_pure rfl rfl fun T375 X375 e375 => ?_)
  show Go p e below _ (T375.setTop (mkF m 42 #[.val (.int a), .val (.int b), .val (.int c0), .val (.int t), .val (.int n), .val (.long xv), .second, .val (.long yv), .second, .val (.long zv), .second, .val (.long (own_minL (own_minL xv yv) zv)), .second, .unset, .unset, .unset, .unset, .unset, .unset, .unset, .unset, .unset, .unset] [(.long (own_maxL xv yv))]))
  refine g_lload X375 hx (hb hby at_42) (v := zv) rfl (q := 44) rfl ?_
  refine g_callS X375 hx hZ hown (hw _ (List.mem_of_getElem? (i := 5) rfl)) (hw _ (List.mem_of_getElem? (i := 6) rfl)) (hw _ (List.mem_of_getElem? (i := 3) rfl)) (hw _ (List.mem_of_getElem? (i := 7) rfl)) (by decide) e375 (rmMaxL l Z a0 hw (own_maxL xv yv) zv h0) (by exact hml.symm) (argsL := [(.long (own_maxL xv yv)), (.long zv)]) (rest := []) rfl rfl pd_2 rfl (Nat.le_of_ble_eq_true rfl) (Nat.le_of_ble_eq_true rfl) (Nat.le_of_ble_eq_true rfl) (Nat.le_of_ble_eq_true rfl) (hb hby at_44) (q := 47) rfl (g_pure rfl rfl fun T376 X376 e376 => ?_)
  show Go p e below _ (T376.setTop (mkF m 47 #[.val (.int a), .val (.int b), .val (.int c0), .val (.int t), .val (.int n), .val (.long xv), .second, .val (.long yv), .second, .val (.long zv), .second, .val (.long (own_minL (own_minL xv yv) zv)), .second, .unset, .unset, .unset, .unset, .unset, .unset, .unset, .unset, .unset, .unset] [(.long (own_maxL (own_maxL xv yv) zv))]))
  refine g_lstore X376 hx (hb hby at_47) (L' := #[.val (.int a), .val (.int b), .val (.int c0), .val (.int t), .val (.int n), .val (.long xv), .second, .val (.long yv), .second, .val (.long zv), .second, .val (.long (own_minL (own_minL xv yv) zv)), .second, .val (.long (own_maxL (own_maxL xv yv) zv)), .second, .unset, .unset, .unset, .unset, .unset, .unset, .unset, .unset]) rfl (q := 49) rfl ?_
  refine g_lload X376 hx (hb hby at_49) (v := xv) rfl (q := 51) rfl ?_
  refine g_lload X376 hx (hb hby at_51) (v := yv) rfl (q := 53) rfl ?_
  refine g_ladd X376 hx (hb hby at_53) (z := (xv + yv)) rfl (q := 54) rfl ?_
  refine g_lload X376 hx (hb hby at_54) (v := zv) rfl (q := 56) rfl ?_
  refine g_ladd X376 hx (hb hby at_56) (z := ((xv + yv) + zv)) rfl (q := 57) rfl ?_
  refine g_lload X376 hx (hb hby at_57) (v := (own_minL (own_minL xv yv) zv)) rfl (q := 59) rfl ?_
  refine g_lsub X376 hx (hb hby at_59) (z := (((xv + yv) + zv) - (own_minL (own_minL xv yv) zv))) rfl (q := 60) rfl ?_
  refine g_lload X376 hx (hb hby at_60) (v := (own_maxL (own_maxL xv yv) zv)) rfl (q := 62) rfl ?_
  refine g_lsub X376 hx (hb hby at_62) (z := ((((xv + yv) + zv) - (own_minL (own_minL xv yv) zv)) - (own_maxL (own_maxL xv yv) zv))) rfl (q := 63) rfl ?_
  refine g_lstore X376 hx (hb hby at_63) (L' := #[.val (.int a), .val (.int b), .val (.int c0), .val (.int t), .val (.int n), .val (.long xv), .second, .val (.long yv), .second, .val (.long zv), .second, .val (.long (own_minL (own_minL xv yv) zv)), .second, .val (.long (own_maxL (own_maxL xv yv) zv)), .second, .val (.long ((((xv + yv) + zv) - (own_minL (own_minL xv yv) zv)) - (own_maxL (own_maxL xv yv) zv))), .second, .unset, .unset, .unset, .unset, .unset, .unset]) rfl (q := 65) rfl ?_
  refine g_lload X376 hx (hb hby at_65) (v := (own_minL (own_minL xv yv) zv)) rfl (q := 67) rfl ?_
  refine g_l2i X376 hx (hb hby at_67) (z := p0) hp0 (q := 68) rfl ?_
  refine g_istore X376 hx (hb hby at_68) (L' := #[.val (.int a), .val (.int b), .val (.int c0), .val (.int t), .val (.int n), .val (.long xv), .second, .val (.long yv), .second, .val (.long zv), .second, .val (.long (own_minL (own_minL xv yv) zv)), .second, .val (.long (own_maxL (own_maxL xv yv) zv)), .second, .val (.long ((((xv + yv) + zv) - (own_minL (own_minL xv yv) zv)) - (own_maxL (own_maxL xv yv) zv))), .second, .val (.int p0), .unset, .unset, .unset, .unset, .unset]) rfl (q := 70) rfl ?_
  refine g_lload X376 hx (hb hby at_70) (v := ((((xv + yv) + zv) - (own_minL (own_minL xv yv) zv)) - (own_maxL (own_maxL xv yv) zv))) rfl (q := 72) rfl ?_
  refine g_l2i X376 hx (hb hby at_72) (z := p1) hp1 (q := 73) rfl ?_
  refine g_istore X376 hx (hb hby at_73) (L' := #[.val (.int a), .val (.int b), .val (.int c0), .val (.int t), .val (.int n), .val (.long xv), .second, .val (.long yv), .second, .val (.long zv), .second, .val (.long (own_minL (own_minL xv yv) zv)), .second, .val (.long (own_maxL (own_maxL xv yv) zv)), .second, .val (.long ((((xv + yv) + zv) - (own_minL (own_minL xv yv) zv)) - (own_maxL (own_maxL xv yv) zv))), .second, .val (.int p0), .val (.int p1), .unset, .unset, .unset, .unset]) rfl (q := 75) rfl ?_
  refine g_lload X376 hx (hb hby at_75) (v := (own_maxL (own_maxL xv yv) zv)) rfl (q := 77) rfl ?_
  refine g_l2i X376 hx (hb hby at_77) (z := p2) hp2 (q := 78) rfl ?_
  refine g_istore X376 hx (hb hby at_78) (L' := #[.val (.int a), .val (.int b), .val (.int c0), .val (.int t), .val (.int n), .val (.long xv), .second, .val (.long yv), .second, .val (.long zv), .second, .val (.long (own_minL (own_minL xv yv) zv)), .second, .val (.long (own_maxL (own_maxL xv yv) zv)), .second, .val (.long ((((xv + yv) + zv) - (own_minL (own_minL xv yv) zv)) - (own_maxL (own_maxL xv yv) zv))), .second, .val (.int p0), .val (.int p1), .val (.int p2), .unset, .unset, .unset]) rfl (q := 80) rfl ?_
  refine g_iload X376 hx (hb hby at_80) (v := n) rfl (q := 82) rfl ?_
  refine g_iconst X376 hx (hb hby at_82) (n := (3 : Int32)) (by decide) (q := 83) rfl ?_
  refine g_iand X376 hx (hb hby at_83) (z := (3 : Int32)) hk (q := 84) rfl ?_
  refine g_istore X376 hx (hb hby at_84) (L' := #[.val (.int a), .val (.int b), .val (.int c0), .val (.int t), .val (.int n), .val (.long xv), .second, .val (.long yv), .second, .val (.long zv), .second, .val (.long (own_minL (own_minL xv yv) zv)), .second, .val (.long (own_maxL (own_maxL xv yv) zv)), .second, .val (.long ((((xv + yv) + zv) - (own_minL (own_minL xv yv) zv)) - (own_maxL (own_maxL xv yv) zv))), .second, .val (.int p0), .val (.int p1), .val (.int p2), .val (.int (3 : Int32)), .unset, .unset]) rfl (q := 86) rfl ?_
  refine g_new X376 hx hZ hown (hw _ (List.mem_of_getElem? (i := 8) rfl)) (hw _ (List.mem_of_getElem? (i := 9) rfl)) (hw _ (List.mem_of_getElem? (i := 10) rfl)) e376 (hb hby at_86) (Nat.le_of_ble_eq_true rfl) (Nat.le_of_ble_eq_true rfl) (q := 89) rfl fun T377 h377 bi g377 X377 e377 E377 A377 D377 => ?_
  have ge_bi : n0 ≤ bi := Nat.le_trans Z0 (Nat.le_of_eq g377.symm)
  have z_377 := Nat.le_trans Z0 E377.1
  have F377_entries : Fld Z h377 bi "com/example/newlyn/newlyn/storage/SegmentIndex" "entries" "[J" .null := D377 (Or.inl (hw _ (List.mem_of_getElem? (i := 19) rfl))) (ty := (.array .long)) (by decide)
  have F377_count : Fld Z h377 bi "com/example/newlyn/newlyn/storage/SegmentIndex" "count" "I" (.int (0 : Int32)) := D377 (Or.inl (hw _ (List.mem_of_getElem? (i := 26) rfl))) (ty := .int) (by decide)
  refine g_dup X377 hx (hb hby at_89) rfl (q := 90) rfl ?_
  refine g_callI X377 hx hZ hown rfl (hw _ (List.mem_of_getElem? (i := 11) rfl)) (hw _ (List.mem_of_getElem? (i := 12) rfl)) (hw _ (List.mem_of_getElem? (i := 13) rfl)) (hw _ (List.mem_of_getElem? (i := 10) rfl)) (by decide) e377 (b := bi) (rmC l Z a0 hw bi h377 n0 z_377 ge_bi A377 F377_entries F377_count) (by exact hml.symm) (argsL := []) (rest := [(.ref bi)]) rfl rfl pd_3 rfl (Nat.le_of_ble_eq_true rfl) (Nat.le_of_ble_eq_true rfl) (Nat.le_of_ble_eq_true rfl) (Nat.le_of_ble_eq_true rfl) (hb hby at_90) (q := 93) rfl (fun v378 T378 L378 X378 hQ378 => ?_)
  generalize e378 : T378.heap = h378 at hQ378
  obtain ⟨rfl, M378, K378, A378, ae, g378, B378, C378, V378⟩ := hQ378
  have N378 := Fr.app (Fr.nil n0) M378
  have ne_bi_ae : bi ≠ ae := Nat.ne_of_lt (Nat.lt_of_lt_of_le A377.lt g378)
  have ge_ae : n0 ≤ ae := Nat.le_trans z_377 g378
  have Z378 : n0 ≤ h378.size := Nat.le_trans z_377 K378.1
  show Go p e below _ (T378.setTop (mkF m 93 #[.val (.int a), .val (.int b), .val (.int c0), .val (.int t), .val (.int n), .val (.long xv), .second, .val (.long yv), .second, .val (.long zv), .second, .val (.long (own_minL (own_minL xv yv) zv)), .second, .val (.long (own_maxL (own_maxL xv yv) zv)), .second, .val (.long ((((xv + yv) + zv) - (own_minL (own_minL xv yv) zv)) - (own_maxL (own_maxL xv yv) zv))), .second, .val (.int p0), .val (.int p1), .val (.int p2), .val (.int (3 : Int32)), .unset, .unset] [(.ref bi)]))
  refine g_astore X378 hx (hb hby at_93) rfl (L' := #[.val (.int a), .val (.int b), .val (.int c0), .val (.int t), .val (.int n), .val (.long xv), .second, .val (.long yv), .second, .val (.long zv), .second, .val (.long (own_minL (own_minL xv yv) zv)), .second, .val (.long (own_maxL (own_maxL xv yv) zv)), .second, .val (.long ((((xv + yv) + zv) - (own_minL (own_minL xv yv) zv)) - (own_maxL (own_maxL xv yv) zv))), .second, .val (.int p0), .val (.int p1), .val (.int p2), .val (.int (3 : Int32)), .val (.ref bi), .unset]) rfl (q := 95) rfl ?_
  refine g_iload X378 hx (hb hby at_95) (v := (3 : Int32)) rfl (q := 97) rfl ?_
  refine g_if_le X378 hx (hb hby at_97) (by decide) (q := 109) (by decide) (q2 := 100) rfl (fun hb97 => absurd hb97 (by decide)) (fun hb97 => ?_)
  refine g_aload X378 hx (hb hby at_100) (v := (.ref bi)) rfl rfl (q := 102) rfl ?_
  refine g_iconst X378 hx (hb hby at_102) (n := (0 : Int32)) (by decide) (q := 103) rfl ?_
  refine g_iload X378 hx (hb hby at_103) (v := p0) rfl (q := 105) rfl ?_
  refine g_lconst X378 hx (hb hby at_105) (n := (0 : Int64)) (by decide) (q := 106) rfl ?_
  refine g_callV X378 hx hZ hown (hw _ (List.mem_of_getElem? (i := 48) rfl)) (hw _ (List.mem_of_getElem? (i := 49) rfl)) (hw _ (List.mem_of_getElem? (i := 51) rfl)) (hw _ (List.mem_of_getElem? (i := 50) rfl)) (hw _ (List.mem_of_getElem? (i := 52) rfl)) (hw _ (List.mem_of_getElem? (i := 10) rfl)) (notFace_of_selects (args := #[]) (mvT hZ (hw _ (List.mem_of_getElem? (i := 51) rfl)))) (by decide) e378 A378 (rmA l Z a0 hw bi ae (0 : Int32) p0 (0 : Int64) (0 : Int32) (1 : Int32) (2 : Int32) (0 : Int32) (1 : Int32) (by decide) (by decide) (by decide) (by decide) (by decide) (fun _ => .long (0 : Int64)) h378 n0 (by decide) (by decide) (by decide) (by decide) ge_bi ge_ae ne_bi_ae A378 B378 C378 V378) (by exact hml.symm) (argsL := [(.int (0 : Int32)), (.int p0), (.long (0 : Int64))]) (rest := []) rfl rfl pd_7 rfl (Nat.le_of_ble_eq_true rfl) (Nat.le_of_ble_eq_true rfl) (Nat.le_of_ble_eq_true rfl) (Nat.le_of_ble_eq_true rfl) (hb hby at_106) (q := 109) rfl (fun v379 T379 L379 X379 hQ379 => ?_)
  generalize e379 : T379.heap = h379 at hQ379
  obtain ⟨rfl, M379, K379, A379, B379, C379, V379⟩ := hQ379
  have N379 := Fr.app N378 M379
  have Z379 : n0 ≤ h379.size := Nat.le_trans Z378 K379.1
  show Go p e below _ (T379.setTop (mkF m 109 #[.val (.int a), .val (.int b), .val (.int c0), .val (.int t), .val (.int n), .val (.long xv), .second, .val (.long yv), .second, .val (.long zv), .second, .val (.long (own_minL (own_minL xv yv) zv)), .second, .val (.long (own_maxL (own_maxL xv yv) zv)), .second, .val (.long ((((xv + yv) + zv) - (own_minL (own_minL xv yv) zv)) - (own_maxL (own_maxL xv yv) zv))), .second, .val (.int p0), .val (.int p1), .val (.int p2), .val (.int (3 : Int32)), .val (.ref bi), .unset] []))
  refine g_iload X379 hx (hb hby at_109) (v := (3 : Int32)) rfl (q := 111) rfl ?_
  refine g_iconst X379 hx (hb hby at_111) (n := (1 : Int32)) (by decide) (q := 112) rfl ?_
  refine g_icmp_le X379 hx (hb hby at_112) (by decide) (q := 124) (by decide) (q2 := 115) rfl (fun hb112 => absurd hb112 (by decide)) (fun hb112 => ?_)
  refine g_aload X379 hx (hb hby at_115) (v := (.ref bi)) rfl rfl (q := 117) rfl ?_
  refine g_iconst X379 hx (hb hby at_117) (n := (1 : Int32)) (by decide) (q := 118) rfl ?_
  refine g_iload X379 hx (hb hby at_118) (v := p1) rfl (q := 120) rfl ?_
  refine g_lconst X379 hx (hb hby at_120) (n := (1 : Int64)) (by decide) (q := 121) rfl ?_
  refine g_callV X379 hx hZ hown (hw _ (List.mem_of_getElem? (i := 48) rfl)) (hw _ (List.mem_of_getElem? (i := 49) rfl)) (hw _ (List.mem_of_getElem? (i := 51) rfl)) (hw _ (List.mem_of_getElem? (i := 50) rfl)) (hw _ (List.mem_of_getElem? (i := 52) rfl)) (hw _ (List.mem_of_getElem? (i := 10) rfl)) (notFace_of_selects (args := #[]) (mvT hZ (hw _ (List.mem_of_getElem? (i := 51) rfl)))) (by decide) e379 A379 (rmA l Z a0 hw bi ae (1 : Int32) p1 (1 : Int64) (1 : Int32) (2 : Int32) (4 : Int32) (2 : Int32) (3 : Int32) (by decide) (by decide) (by decide) (by decide) (by decide) (fun i => if i = (1 : Int32).toNatClampNeg then .long (0 : Int64) else if i = (0 : Int32).toNatClampNeg then .long (own_entry (0 : Int32) p0) else (fun _ => .long (0 : Int64)) i) h379 n0 (by decide) (by decide) (by decide) (by decide) ge_bi ge_ae ne_bi_ae A379 B379 C379 V379) (by exact hml.symm) (argsL := [(.int (1 : Int32)), (.int p1), (.long (1 : Int64))]) (rest := []) rfl rfl pd_7 rfl (Nat.le_of_ble_eq_true rfl) (Nat.le_of_ble_eq_true rfl) (Nat.le_of_ble_eq_true rfl) (Nat.le_of_ble_eq_true rfl) (hb hby at_121) (q := 124) rfl (fun v380 T380 L380 X380 hQ380 => ?_)
  generalize e380 : T380.heap = h380 at hQ380
  obtain ⟨rfl, M380, K380, A380, B380, C380, V380⟩ := hQ380
  have N380 := Fr.app N379 M380
  have Z380 : n0 ≤ h380.size := Nat.le_trans Z379 K380.1
  show Go p e below _ (T380.setTop (mkF m 124 #[.val (.int a), .val (.int b), .val (.int c0), .val (.int t), .val (.int n), .val (.long xv), .second, .val (.long yv), .second, .val (.long zv), .second, .val (.long (own_minL (own_minL xv yv) zv)), .second, .val (.long (own_maxL (own_maxL xv yv) zv)), .second, .val (.long ((((xv + yv) + zv) - (own_minL (own_minL xv yv) zv)) - (own_maxL (own_maxL xv yv) zv))), .second, .val (.int p0), .val (.int p1), .val (.int p2), .val (.int (3 : Int32)), .val (.ref bi), .unset] []))
  refine g_iload X380 hx (hb hby at_124) (v := (3 : Int32)) rfl (q := 126) rfl ?_
  refine g_iconst X380 hx (hb hby at_126) (n := (2 : Int32)) (by decide) (q := 127) rfl ?_
  refine g_icmp_le X380 hx (hb hby at_127) (by decide) (q := 141) (by decide) (q2 := 130) rfl (fun hb127 => absurd hb127 (by decide)) (fun hb127 => ?_)
  refine g_aload X380 hx (hb hby at_130) (v := (.ref bi)) rfl rfl (q := 132) rfl ?_
  refine g_iconst X380 hx (hb hby at_132) (n := (2 : Int32)) (by decide) (q := 133) rfl ?_
  refine g_iload X380 hx (hb hby at_133) (v := p2) rfl (q := 135) rfl ?_
  refine g_ldcJ X380 hx hZ hown (hw _ (List.mem_of_getElem? (i := 47) rfl)) (hb hby at_135) (q := 138) rfl ?_
  refine g_callV X380 hx hZ hown (hw _ (List.mem_of_getElem? (i := 48) rfl)) (hw _ (List.mem_of_getElem? (i := 49) rfl)) (hw _ (List.mem_of_getElem? (i := 51) rfl)) (hw _ (List.mem_of_getElem? (i := 50) rfl)) (hw _ (List.mem_of_getElem? (i := 52) rfl)) (hw _ (List.mem_of_getElem? (i := 10) rfl)) (notFace_of_selects (args := #[]) (mvT hZ (hw _ (List.mem_of_getElem? (i := 51) rfl)))) (by decide) e380 A380 (rmA l Z a0 hw bi ae (2 : Int32) p2 (2 : Int64) (2 : Int32) (3 : Int32) (6 : Int32) (4 : Int32) (5 : Int32) (by decide) (by decide) (by decide) (by decide) (by decide) (fun i => if i = (3 : Int32).toNatClampNeg then .long (1 : Int64) else if i = (2 : Int32).toNatClampNeg then .long (own_entry (1 : Int32) p1) else (fun i => if i = (1 : Int32).toNatClampNeg then .long (0 : Int64) else if i = (0 : Int32).toNatClampNeg then .long (own_entry (0 : Int32) p0) else (fun _ => .long (0 : Int64)) i) i) h380 n0 (by decide) (by decide) (by decide) (by decide) ge_bi ge_ae ne_bi_ae A380 B380 C380 V380) (by exact hml.symm) (argsL := [(.int (2 : Int32)), (.int p2), (.long (2 : Int64))]) (rest := []) rfl rfl pd_7 rfl (Nat.le_of_ble_eq_true rfl) (Nat.le_of_ble_eq_true rfl) (Nat.le_of_ble_eq_true rfl) (Nat.le_of_ble_eq_true rfl) (hb hby at_138) (q := 141) rfl (fun v381 T381 L381 X381 hQ381 => ?_)
  generalize e381 : T381.heap = h381 at hQ381
  obtain ⟨rfl, M381, K381, A381, B381, C381, V381⟩ := hQ381
  have N381 := Fr.app N380 M381
  have Z381 : n0 ≤ h381.size := Nat.le_trans Z380 K381.1
  show Go p e below _ (T381.setTop (mkF m 141 #[.val (.int a), .val (.int b), .val (.int c0), .val (.int t), .val (.int n), .val (.long xv), .second, .val (.long yv), .second, .val (.long zv), .second, .val (.long (own_minL (own_minL xv yv) zv)), .second, .val (.long (own_maxL (own_maxL xv yv) zv)), .second, .val (.long ((((xv + yv) + zv) - (own_minL (own_minL xv yv) zv)) - (own_maxL (own_maxL xv yv) zv))), .second, .val (.int p0), .val (.int p1), .val (.int p2), .val (.int (3 : Int32)), .val (.ref bi), .unset] []))
  refine g_aload X381 hx (hb hby at_141) (v := (.ref bi)) rfl rfl (q := 143) rfl ?_
  refine g_iloadN X381 hx (hb hby at_143) (v := t) rfl (q := 144) rfl ?_
  have q0 : ((fun i => if i = (5 : Int32).toNatClampNeg then .long (2 : Int64) else if i = (4 : Int32).toNatClampNeg then .long (own_entry (2 : Int32) p2) else (fun i => if i = (3 : Int32).toNatClampNeg then .long (1 : Int64) else if i = (2 : Int32).toNatClampNeg then .long (own_entry (1 : Int32) p1) else (fun i => if i = (1 : Int32).toNatClampNeg then .long (0 : Int64) else if i = (0 : Int32).toNatClampNeg then .long (own_entry (0 : Int32) p0) else (fun _ => .long (0 : Int64)) i) i) i) : Nat → Value) (0 : Int32).toNatClampNeg = .long (own_entry (0 : Int32) p0) := by rfl
  have r0 := own_entry_pos (0 : Int32) p0 (by decide) g0
  have o0 : own_off (own_entry (0 : Int32) p0) = (0 : Int64) := (own_entry_off (0 : Int32) p0 (by decide) g0).trans (by decide)
  have q1 : ((fun i => if i = (5 : Int32).toNatClampNeg then .long (2 : Int64) else if i = (4 : Int32).toNatClampNeg then .long (own_entry (2 : Int32) p2) else (fun i => if i = (3 : Int32).toNatClampNeg then .long (1 : Int64) else if i = (2 : Int32).toNatClampNeg then .long (own_entry (1 : Int32) p1) else (fun i => if i = (1 : Int32).toNatClampNeg then .long (0 : Int64) else if i = (0 : Int32).toNatClampNeg then .long (own_entry (0 : Int32) p0) else (fun _ => .long (0 : Int64)) i) i) i) : Nat → Value) (2 : Int32).toNatClampNeg = .long (own_entry (1 : Int32) p1) := by rfl
  have r1 := own_entry_pos (1 : Int32) p1 (by decide) g1
  have o1 : own_off (own_entry (1 : Int32) p1) = (1 : Int64) := (own_entry_off (1 : Int32) p1 (by decide) g1).trans (by decide)
  have q2 : ((fun i => if i = (5 : Int32).toNatClampNeg then .long (2 : Int64) else if i = (4 : Int32).toNatClampNeg then .long (own_entry (2 : Int32) p2) else (fun i => if i = (3 : Int32).toNatClampNeg then .long (1 : Int64) else if i = (2 : Int32).toNatClampNeg then .long (own_entry (1 : Int32) p1) else (fun i => if i = (1 : Int32).toNatClampNeg then .long (0 : Int64) else if i = (0 : Int32).toNatClampNeg then .long (own_entry (0 : Int32) p0) else (fun _ => .long (0 : Int64)) i) i) i) : Nat → Value) (4 : Int32).toNatClampNeg = .long (own_entry (2 : Int32) p2) := by rfl
  have r2 := own_entry_pos (2 : Int32) p2 (by decide) g2
  have o2 : own_off (own_entry (2 : Int32) p2) = (2 : Int64) := (own_entry_off (2 : Int32) p2 (by decide) g2).trans (by decide)
  refine g_callV X381 hx hZ hown (hw _ (List.mem_of_getElem? (i := 20) rfl)) (hw _ (List.mem_of_getElem? (i := 21) rfl)) (hw _ (List.mem_of_getElem? (i := 23) rfl)) (hw _ (List.mem_of_getElem? (i := 22) rfl)) (hw _ (List.mem_of_getElem? (i := 24) rfl)) (hw _ (List.mem_of_getElem? (i := 10) rfl)) (notFace_of_selects (args := #[]) (mvT hZ (hw _ (List.mem_of_getElem? (i := 23) rfl)))) (by decide) e381 A381 (rmT3 l Z a0 hw bi ae t p0 p1 p2 (own_entry (0 : Int32) p0) (own_entry (1 : Int32) p1) (own_entry (2 : Int32) p2) (fun i => if i = (5 : Int32).toNatClampNeg then .long (2 : Int64) else if i = (4 : Int32).toNatClampNeg then .long (own_entry (2 : Int32) p2) else (fun i => if i = (3 : Int32).toNatClampNeg then .long (1 : Int64) else if i = (2 : Int32).toNatClampNeg then .long (own_entry (1 : Int32) p1) else (fun i => if i = (1 : Int32).toNatClampNeg then .long (0 : Int64) else if i = (0 : Int32).toNatClampNeg then .long (own_entry (0 : Int32) p0) else (fun _ => .long (0 : Int64)) i) i) i) h381 n0 ge_bi ne_bi_ae A381 B381 C381 V381 q0 r0 q1 r1 q2 r2) (by exact hml.symm) (argsL := [(.int t)]) (rest := []) rfl rfl pd_4 rfl (Nat.le_of_ble_eq_true rfl) (Nat.le_of_ble_eq_true rfl) (Nat.le_of_ble_eq_true rfl) (Nat.le_of_ble_eq_true rfl) (hb hby at_144) (q := 147) rfl (fun v382 T382 L382 X382 hQ382 => ?_)
  generalize e382 : T382.heap = h382 at hQ382
  obtain ⟨rfl, M382, K382, A382, B382, C382⟩ := hQ382
  have N382 := Fr.app N381 M382
  have Z382 : n0 ≤ h382.size := Nat.le_trans Z381 K382.1
  have V382 := V381.keep K382 (ninS (Ne.symm ne_bi_ae) nin0)
  rw [show own_tr3 t p0 p1 p2 = (1 : Int32) from by rw [own_tr3, if_neg lt2, if_neg lt1, if_pos lt0]] at C382
  show Go p e below _ (T382.setTop (mkF m 147 #[.val (.int a), .val (.int b), .val (.int c0), .val (.int t), .val (.int n), .val (.long xv), .second, .val (.long yv), .second, .val (.long zv), .second, .val (.long (own_minL (own_minL xv yv) zv)), .second, .val (.long (own_maxL (own_maxL xv yv) zv)), .second, .val (.long ((((xv + yv) + zv) - (own_minL (own_minL xv yv) zv)) - (own_maxL (own_maxL xv yv) zv))), .second, .val (.int p0), .val (.int p1), .val (.int p2), .val (.int (3 : Int32)), .val (.ref bi), .unset] []))
  refine g_iconst X382 hx (hb hby at_147) (n := (0 : Int32)) (by decide) (q := 148) rfl ?_
  refine g_istore X382 hx (hb hby at_148) (L' := #[.val (.int a), .val (.int b), .val (.int c0), .val (.int t), .val (.int n), .val (.long xv), .second, .val (.long yv), .second, .val (.long zv), .second, .val (.long (own_minL (own_minL xv yv) zv)), .second, .val (.long (own_maxL (own_maxL xv yv) zv)), .second, .val (.long ((((xv + yv) + zv) - (own_minL (own_minL xv yv) zv)) - (own_maxL (own_maxL xv yv) zv))), .second, .val (.int p0), .val (.int p1), .val (.int p2), .val (.int (3 : Int32)), .val (.ref bi), .val (.int (0 : Int32))]) rfl (q := 150) rfl ?_
  refine g_iload X382 hx (hb hby at_150) (v := (3 : Int32)) rfl (q := 152) rfl ?_
  refine g_if_le X382 hx (hb hby at_152) (by decide) (q := 164) (by decide) (q2 := 155) rfl (fun hb152 => absurd hb152 (by decide)) (fun hb152 => ?_)
  refine g_iload X382 hx (hb hby at_155) (v := p0) rfl (q := 157) rfl ?_
  refine g_iloadN X382 hx (hb hby at_157) (v := t) rfl (q := 158) rfl ?_
  refine g_icmp_ge X382 hx (hb hby at_158) (by decide) (q := 164) (by decide) (q2 := 161) rfl (fun hb158 => absurd hb158 (not_not_intro lt0)) (fun hb158 => ?_)
  refine g_iconst X382 hx (hb hby at_161) (n := (1 : Int32)) (by decide) (q := 162) rfl ?_
  refine g_istore X382 hx (hb hby at_162) (L' := #[.val (.int a), .val (.int b), .val (.int c0), .val (.int t), .val (.int n), .val (.long xv), .second, .val (.long yv), .second, .val (.long zv), .second, .val (.long (own_minL (own_minL xv yv) zv)), .second, .val (.long (own_maxL (own_maxL xv yv) zv)), .second, .val (.long ((((xv + yv) + zv) - (own_minL (own_minL xv yv) zv)) - (own_maxL (own_maxL xv yv) zv))), .second, .val (.int p0), .val (.int p1), .val (.int p2), .val (.int (3 : Int32)), .val (.ref bi), .val (.int (1 : Int32))]) rfl (q := 164) rfl ?_
  refine g_iload X382 hx (hb hby at_164) (v := (1 : Int32)) rfl (q := 166) rfl ?_
  refine g_iconst X382 hx (hb hby at_166) (n := (1 : Int32)) (by decide) (q := 167) rfl ?_
  refine g_icmp_ne X382 hx (hb hby at_167) (by decide) (q := 185) (by decide) (q2 := 170) rfl (fun hb167 => absurd hb167 (by decide)) (fun hb167 => ?_)
  refine g_iload X382 hx (hb hby at_170) (v := (3 : Int32)) rfl (q := 172) rfl ?_
  refine g_iconst X382 hx (hb hby at_172) (n := (1 : Int32)) (by decide) (q := 173) rfl ?_
  refine g_icmp_le X382 hx (hb hby at_173) (by decide) (q := 185) (by decide) (q2 := 176) rfl (fun hb173 => absurd hb173 (by decide)) (fun hb173 => ?_)
  refine g_iload X382 hx (hb hby at_176) (v := p1) rfl (q := 178) rfl ?_
  refine g_iloadN X382 hx (hb hby at_178) (v := t) rfl (q := 179) rfl ?_
  refine g_icmp_ge X382 hx (hb hby at_179) (by decide) (q := 185) (by decide) (q2 := 182) rfl (fun hb179 => ?_) (fun hb179 => absurd hb179 lt1)
  refine g_iload X382 hx (hb hby at_185) (v := (1 : Int32)) rfl (q := 187) rfl ?_
  refine g_iconst X382 hx (hb hby at_187) (n := (2 : Int32)) (by decide) (q := 188) rfl ?_
  refine g_icmp_ne X382 hx (hb hby at_188) (by decide) (q := 206) (by decide) (q2 := 191) rfl (fun hb188 => ?_) (fun hb188 => absurd hb188 (by decide))
  refine g_aload X382 hx (hb hby at_206) (v := (.ref bi)) rfl rfl (q := 208) rfl ?_
  refine g_lconst X382 hx (hb hby at_208) (n := (0 : Int64)) (by decide) (q := 209) rfl ?_
  refine g_callVH X382 hx hH hown (hw _ (List.mem_of_getElem? (i := 27) rfl)) (hw _ (List.mem_of_getElem? (i := 28) rfl)) (hw _ (List.mem_of_getElem? (i := 30) rfl)) (hw _ (List.mem_of_getElem? (i := 29) rfl)) (hw _ (List.mem_of_getElem? (i := 31) rfl)) (hw _ (List.mem_of_getElem? (i := 10) rfl)) (notFace_of_selects (args := #[]) (mvT hZ (hw _ (List.mem_of_getElem? (i := 30) rfl)))) (by decide) e382 A382 (rmF10 l Z a0 hw bi ae (own_entry (0 : Int32) p0) p0 (fun i => if i = (5 : Int32).toNatClampNeg then .long (2 : Int64) else if i = (4 : Int32).toNatClampNeg then .long (own_entry (2 : Int32) p2) else (fun i => if i = (3 : Int32).toNatClampNeg then .long (1 : Int64) else if i = (2 : Int32).toNatClampNeg then .long (own_entry (1 : Int32) p1) else (fun i => if i = (1 : Int32).toNatClampNeg then .long (0 : Int64) else if i = (0 : Int32).toNatClampNeg then .long (own_entry (0 : Int32) p0) else (fun _ => .long (0 : Int64)) i) i) i) h382 A382 B382 C382 V382 q0 r0 o0) (by exact hml.symm) (argsL := [(.long (0 : Int64))]) (rest := []) rfl rfl pd_5 rfl (Nat.le_of_ble_eq_true rfl) (Nat.le_of_ble_eq_true rfl) (Nat.le_of_ble_eq_true rfl) (Nat.le_of_ble_eq_true rfl) (hb hby at_209) (q := 212) rfl (fun v383 T383 L383 X383 hQ383 => ?_)
  generalize e383 : T383.heap = h383 at hQ383
  obtain ⟨rfl, rfl, E383⟩ := hQ383
  have z_383 := Nat.le_trans Z382 E383.1
  have f384 := (A382.ext E383)
  have f385 := (B382.ext E383)
  have f386 := (C382.ext E383)
  have f387 := (V382.ext E383)
  have N383 := Fr.app N382 (Fr.nil n0)
  show Go p e below _ (T383.setTop (mkF m 212 #[.val (.int a), .val (.int b), .val (.int c0), .val (.int t), .val (.int n), .val (.long xv), .second, .val (.long yv), .second, .val (.long zv), .second, .val (.long (own_minL (own_minL xv yv) zv)), .second, .val (.long (own_maxL (own_maxL xv yv) zv)), .second, .val (.long ((((xv + yv) + zv) - (own_minL (own_minL xv yv) zv)) - (own_maxL (own_maxL xv yv) zv))), .second, .val (.int p0), .val (.int p1), .val (.int p2), .val (.int (3 : Int32)), .val (.ref bi), .val (.int (1 : Int32))] [(.int p0)]))
  refine g_iconst X383 hx (hb hby at_212) (n := (0 : Int32)) (by decide) (q := 213) rfl ?_
  refine g_iload X383 hx (hb hby at_213) (v := (1 : Int32)) rfl (q := 215) rfl ?_
  refine g_iload X383 hx (hb hby at_215) (v := p0) rfl (q := 217) rfl ?_
  refine g_iload X383 hx (hb hby at_217) (v := p1) rfl (q := 219) rfl ?_
  refine g_iload X383 hx (hb hby at_219) (v := p2) rfl (q := 221) rfl ?_
  refine g_callS X383 hx hZ hown (hw _ (List.mem_of_getElem? (i := 40) rfl)) (hw _ (List.mem_of_getElem? (i := 41) rfl)) (hw _ (List.mem_of_getElem? (i := 42) rfl)) (hw _ (List.mem_of_getElem? (i := 43) rfl)) (by decide) e383 (rmX l Z a0 hw (0 : Int32) (1 : Int32) p0 p1 p2 p0 (own_exp_01 p0 p1 p2) h383) (by exact hml.symm) (argsL := [(.int (0 : Int32)), (.int (1 : Int32)), (.int p0), (.int p1), (.int p2)]) (rest := [(.int p0)]) rfl rfl pd_6 rfl (Nat.le_of_ble_eq_true rfl) (Nat.le_of_ble_eq_true rfl) (Nat.le_of_ble_eq_true rfl) (Nat.le_of_ble_eq_true rfl) (hb hby at_221) (q := 224) rfl (g_pure rfl rfl fun T388 X388 e388 => ?_)
  show Go p e below _ (T388.setTop (mkF m 224 #[.val (.int a), .val (.int b), .val (.int c0), .val (.int t), .val (.int n), .val (.long xv), .second, .val (.long yv), .second, .val (.long zv), .second, .val (.long (own_minL (own_minL xv yv) zv)), .second, .val (.long (own_maxL (own_maxL xv yv) zv)), .second, .val (.long ((((xv + yv) + zv) - (own_minL (own_minL xv yv) zv)) - (own_maxL (own_maxL xv yv) zv))), .second, .val (.int p0), .val (.int p1), .val (.int p2), .val (.int (3 : Int32)), .val (.ref bi), .val (.int (1 : Int32))] [(.int p0), (.int p0)]))
  refine g_icmp_ne X388 hx (hb hby at_224) (by decide) (q := 275) (by decide) (q2 := 227) rfl (fun hb224 => absurd hb224 (not_not_intro rfl)) (fun hb224 => ?_)
  refine g_aload X388 hx (hb hby at_227) (v := (.ref bi)) rfl rfl (q := 229) rfl ?_
  refine g_lconst X388 hx (hb hby at_229) (n := (1 : Int64)) (by decide) (q := 230) rfl ?_
  refine g_callVH X388 hx hH hown (hw _ (List.mem_of_getElem? (i := 27) rfl)) (hw _ (List.mem_of_getElem? (i := 28) rfl)) (hw _ (List.mem_of_getElem? (i := 30) rfl)) (hw _ (List.mem_of_getElem? (i := 29) rfl)) (hw _ (List.mem_of_getElem? (i := 31) rfl)) (hw _ (List.mem_of_getElem? (i := 10) rfl)) (notFace_of_selects (args := #[]) (mvT hZ (hw _ (List.mem_of_getElem? (i := 30) rfl)))) (by decide) e388 f384 (rmF11 l Z a0 hw bi ae (own_entry (0 : Int32) p0) p0 (fun i => if i = (5 : Int32).toNatClampNeg then .long (2 : Int64) else if i = (4 : Int32).toNatClampNeg then .long (own_entry (2 : Int32) p2) else (fun i => if i = (3 : Int32).toNatClampNeg then .long (1 : Int64) else if i = (2 : Int32).toNatClampNeg then .long (own_entry (1 : Int32) p1) else (fun i => if i = (1 : Int32).toNatClampNeg then .long (0 : Int64) else if i = (0 : Int32).toNatClampNeg then .long (own_entry (0 : Int32) p0) else (fun _ => .long (0 : Int64)) i) i) i) h383 f384 f385 f386 f387 q0 r0 o0) (by exact hml.symm) (argsL := [(.long (1 : Int64))]) (rest := []) rfl rfl pd_5 rfl (Nat.le_of_ble_eq_true rfl) (Nat.le_of_ble_eq_true rfl) (Nat.le_of_ble_eq_true rfl) (Nat.le_of_ble_eq_true rfl) (hb hby at_230) (q := 233) rfl (fun v389 T389 L389 X389 hQ389 => ?_)
  generalize e389 : T389.heap = h389 at hQ389
  obtain ⟨rfl, rfl, E389⟩ := hQ389
  have z_389 := Nat.le_trans z_383 E389.1
  have f390 := (f384.ext E389)
  have f391 := (f385.ext E389)
  have f392 := (f386.ext E389)
  have f393 := (f387.ext E389)
  have N389 := Fr.app N383 (Fr.nil n0)
  show Go p e below _ (T389.setTop (mkF m 233 #[.val (.int a), .val (.int b), .val (.int c0), .val (.int t), .val (.int n), .val (.long xv), .second, .val (.long yv), .second, .val (.long zv), .second, .val (.long (own_minL (own_minL xv yv) zv)), .second, .val (.long (own_maxL (own_maxL xv yv) zv)), .second, .val (.long ((((xv + yv) + zv) - (own_minL (own_minL xv yv) zv)) - (own_maxL (own_maxL xv yv) zv))), .second, .val (.int p0), .val (.int p1), .val (.int p2), .val (.int (3 : Int32)), .val (.ref bi), .val (.int (1 : Int32))] [(.int p0)]))
  refine g_iconst X389 hx (hb hby at_233) (n := (1 : Int32)) (by decide) (q := 234) rfl ?_
  refine g_iload X389 hx (hb hby at_234) (v := (1 : Int32)) rfl (q := 236) rfl ?_
  refine g_iload X389 hx (hb hby at_236) (v := p0) rfl (q := 238) rfl ?_
  refine g_iload X389 hx (hb hby at_238) (v := p1) rfl (q := 240) rfl ?_
  refine g_iload X389 hx (hb hby at_240) (v := p2) rfl (q := 242) rfl ?_
  refine g_callS X389 hx hZ hown (hw _ (List.mem_of_getElem? (i := 40) rfl)) (hw _ (List.mem_of_getElem? (i := 41) rfl)) (hw _ (List.mem_of_getElem? (i := 42) rfl)) (hw _ (List.mem_of_getElem? (i := 43) rfl)) (by decide) e389 (rmX l Z a0 hw (1 : Int32) (1 : Int32) p0 p1 p2 p0 (own_exp_11 p0 p1 p2) h389) (by exact hml.symm) (argsL := [(.int (1 : Int32)), (.int (1 : Int32)), (.int p0), (.int p1), (.int p2)]) (rest := [(.int p0)]) rfl rfl pd_6 rfl (Nat.le_of_ble_eq_true rfl) (Nat.le_of_ble_eq_true rfl) (Nat.le_of_ble_eq_true rfl) (Nat.le_of_ble_eq_true rfl) (hb hby at_242) (q := 245) rfl (g_pure rfl rfl fun T394 X394 e394 => ?_)
  show Go p e below _ (T394.setTop (mkF m 245 #[.val (.int a), .val (.int b), .val (.int c0), .val (.int t), .val (.int n), .val (.long xv), .second, .val (.long yv), .second, .val (.long zv), .second, .val (.long (own_minL (own_minL xv yv) zv)), .second, .val (.long (own_maxL (own_maxL xv yv) zv)), .second, .val (.long ((((xv + yv) + zv) - (own_minL (own_minL xv yv) zv)) - (own_maxL (own_maxL xv yv) zv))), .second, .val (.int p0), .val (.int p1), .val (.int p2), .val (.int (3 : Int32)), .val (.ref bi), .val (.int (1 : Int32))] [(.int p0), (.int p0)]))
  refine g_icmp_ne X394 hx (hb hby at_245) (by decide) (q := 275) (by decide) (q2 := 248) rfl (fun hb245 => absurd hb245 (not_not_intro rfl)) (fun hb245 => ?_)
  refine g_aload X394 hx (hb hby at_248) (v := (.ref bi)) rfl rfl (q := 250) rfl ?_
  refine g_ldcJ X394 hx hZ hown (hw _ (List.mem_of_getElem? (i := 47) rfl)) (hb hby at_250) (q := 253) rfl ?_
  refine g_callVH X394 hx hH hown (hw _ (List.mem_of_getElem? (i := 27) rfl)) (hw _ (List.mem_of_getElem? (i := 28) rfl)) (hw _ (List.mem_of_getElem? (i := 30) rfl)) (hw _ (List.mem_of_getElem? (i := 29) rfl)) (hw _ (List.mem_of_getElem? (i := 31) rfl)) (hw _ (List.mem_of_getElem? (i := 10) rfl)) (notFace_of_selects (args := #[]) (mvT hZ (hw _ (List.mem_of_getElem? (i := 30) rfl)))) (by decide) e394 f390 (rmF12 l Z a0 hw bi ae (own_entry (0 : Int32) p0) p0 (fun i => if i = (5 : Int32).toNatClampNeg then .long (2 : Int64) else if i = (4 : Int32).toNatClampNeg then .long (own_entry (2 : Int32) p2) else (fun i => if i = (3 : Int32).toNatClampNeg then .long (1 : Int64) else if i = (2 : Int32).toNatClampNeg then .long (own_entry (1 : Int32) p1) else (fun i => if i = (1 : Int32).toNatClampNeg then .long (0 : Int64) else if i = (0 : Int32).toNatClampNeg then .long (own_entry (0 : Int32) p0) else (fun _ => .long (0 : Int64)) i) i) i) h389 f390 f391 f392 f393 q0 r0 o0) (by exact hml.symm) (argsL := [(.long (2 : Int64))]) (rest := []) rfl rfl pd_5 rfl (Nat.le_of_ble_eq_true rfl) (Nat.le_of_ble_eq_true rfl) (Nat.le_of_ble_eq_true rfl) (Nat.le_of_ble_eq_true rfl) (hb hby at_253) (q := 256) rfl (fun v395 T395 L395 X395 hQ395 => ?_)
  generalize e395 : T395.heap = h395 at hQ395
  obtain ⟨rfl, rfl, E395⟩ := hQ395
  have z_395 := Nat.le_trans z_389 E395.1
  have f396 := (f390.ext E395)
  have f397 := (f391.ext E395)
  have f398 := (f392.ext E395)
  have f399 := (f393.ext E395)
  have N395 := Fr.app N389 (Fr.nil n0)
  show Go p e below _ (T395.setTop (mkF m 256 #[.val (.int a), .val (.int b), .val (.int c0), .val (.int t), .val (.int n), .val (.long xv), .second, .val (.long yv), .second, .val (.long zv), .second, .val (.long (own_minL (own_minL xv yv) zv)), .second, .val (.long (own_maxL (own_maxL xv yv) zv)), .second, .val (.long ((((xv + yv) + zv) - (own_minL (own_minL xv yv) zv)) - (own_maxL (own_maxL xv yv) zv))), .second, .val (.int p0), .val (.int p1), .val (.int p2), .val (.int (3 : Int32)), .val (.ref bi), .val (.int (1 : Int32))] [(.int p0)]))
  refine g_iconst X395 hx (hb hby at_256) (n := (2 : Int32)) (by decide) (q := 257) rfl ?_
  refine g_iload X395 hx (hb hby at_257) (v := (1 : Int32)) rfl (q := 259) rfl ?_
  refine g_iload X395 hx (hb hby at_259) (v := p0) rfl (q := 261) rfl ?_
  refine g_iload X395 hx (hb hby at_261) (v := p1) rfl (q := 263) rfl ?_
  refine g_iload X395 hx (hb hby at_263) (v := p2) rfl (q := 265) rfl ?_
  refine g_callS X395 hx hZ hown (hw _ (List.mem_of_getElem? (i := 40) rfl)) (hw _ (List.mem_of_getElem? (i := 41) rfl)) (hw _ (List.mem_of_getElem? (i := 42) rfl)) (hw _ (List.mem_of_getElem? (i := 43) rfl)) (by decide) e395 (rmX l Z a0 hw (2 : Int32) (1 : Int32) p0 p1 p2 p0 (own_exp_21 p0 p1 p2) h395) (by exact hml.symm) (argsL := [(.int (2 : Int32)), (.int (1 : Int32)), (.int p0), (.int p1), (.int p2)]) (rest := [(.int p0)]) rfl rfl pd_6 rfl (Nat.le_of_ble_eq_true rfl) (Nat.le_of_ble_eq_true rfl) (Nat.le_of_ble_eq_true rfl) (Nat.le_of_ble_eq_true rfl) (hb hby at_265) (q := 268) rfl (g_pure rfl rfl fun T400 X400 e400 => ?_)
  show Go p e below _ (T400.setTop (mkF m 268 #[.val (.int a), .val (.int b), .val (.int c0), .val (.int t), .val (.int n), .val (.long xv), .second, .val (.long yv), .second, .val (.long zv), .second, .val (.long (own_minL (own_minL xv yv) zv)), .second, .val (.long (own_maxL (own_maxL xv yv) zv)), .second, .val (.long ((((xv + yv) + zv) - (own_minL (own_minL xv yv) zv)) - (own_maxL (own_maxL xv yv) zv))), .second, .val (.int p0), .val (.int p1), .val (.int p2), .val (.int (3 : Int32)), .val (.ref bi), .val (.int (1 : Int32))] [(.int p0), (.int p0)]))
  refine g_icmp_ne X400 hx (hb hby at_268) (by decide) (q := 275) (by decide) (q2 := 271) rfl (fun hb268 => absurd hb268 (not_not_intro rfl)) (fun hb268 => ?_)
  refine g_iconst X400 hx (hb hby at_271) (n := (1 : Int32)) (by decide) (q := 272) rfl ?_
  refine g_goto X400 hx (hb hby at_272) (by decide) (q := 276) (by decide) ?_
  exact g_retB X400 hx hret hlk (hb hby at_276) (by decide) ⟨rfl, by simpa using N395⟩ (Nat.le_of_ble_eq_true rfl) (Nat.le_of_ble_eq_true rfl)
set_option maxRecDepth 65536 in
set_option maxHeartbeats 40000000 in
theorem law32 (l : Launch) (Z : State) (a0 : Array Value) (hw : ∀ d ∈ tables_1, d.before a0 Z = true) (a b c0 t n : Int32) (xv yv zv : Int64) (p0 p1 p2 : Int32) (h0 : Heap) (n0 : Nat) (Z0 : n0 ≤ h0.size) (hx1 : (a &&& (2147483647 : Int32)).toInt64 = xv) (hy1 : (b &&& (2147483647 : Int32)).toInt64 = yv) (hz1 : (c0 &&& (2147483647 : Int32)).toInt64 = zv) (hp0 : (own_minL (own_minL xv yv) zv).toInt32 = p0) (hp1 : ((((xv + yv) + zv) - (own_minL (own_minL xv yv) zv)) - (own_maxL (own_maxL xv yv) zv)).toInt32 = p1) (hp2 : (own_maxL (own_maxL xv yv) zv).toInt32 = p2) (g0 : ¬ p0 < 0) (g1 : ¬ p1 < 0) (g2 : ¬ p2 < 0) (hk : n &&& (3 : Int32) = 3) (lt0 : p0 < t) (lt1 : p1 < t) (lt2 : ¬ p2 < t) :
    ConH l Z h0 x code maxLocals ret room_1 #[(.int a), (.int b), (.int c0), (.int t), (.int n)] (fun v h L => v = some (.int 1) ∧ Fr n0 L) := by
  refine con_ofH (plainFor_of_name pn_0) (Ls := #[.val (.int a), .val (.int b), .val (.int c0), .val (.int t), .val (.int n), .unset, .unset, .unset, .unset, .unset, .unset, .unset, .unset, .unset, .unset, .unset, .unset, .unset, .unset, .unset, .unset, .unset, .unset]) (fun m => by first | (simp [entryFrame, mkF, argsToLocals, Value.category, maxLocals]; done) | rfl) ?_
  intro p e s m below meth c s₁ hx hH hby hml hret hlk hnm hown hnamed X0 e0
  have hZ := hH.wide
  refine g_iloadN X0 hx (hb hby at_0) (v := a) rfl (q := 1) rfl ?_
  refine g_ldcI X0 hx hZ hown (hw _ (List.mem_of_getElem? (i := 0) rfl)) (hb hby at_1) (q := 3) rfl ?_
  refine g_iand X0 hx (hb hby at_3) (z := (a &&& (2147483647 : Int32))) rfl (q := 4) rfl ?_
  refine g_i2l X0 hx (hb hby at_4) (z := xv) hx1 (q := 5) rfl ?_
  refine g_lstore X0 hx (hb hby at_5) (L' := #[.val (.int a), .val (.int b), .val (.int c0), .val (.int t), .val (.int n), .val (.long xv), .second, .unset, .unset, .unset, .unset, .unset, .unset, .unset, .unset, .unset, .unset, .unset, .unset, .unset, .unset, .unset, .unset]) rfl (q := 7) rfl ?_
  refine g_iloadN X0 hx (hb hby at_7) (v := b) rfl (q := 8) rfl ?_
  refine g_ldcI X0 hx hZ hown (hw _ (List.mem_of_getElem? (i := 0) rfl)) (hb hby at_8) (q := 10) rfl ?_
  refine g_iand X0 hx (hb hby at_10) (z := (b &&& (2147483647 : Int32))) rfl (q := 11) rfl ?_
  refine g_i2l X0 hx (hb hby at_11) (z := yv) hy1 (q := 12) rfl ?_
  refine g_lstore X0 hx (hb hby at_12) (L' := #[.val (.int a), .val (.int b), .val (.int c0), .val (.int t), .val (.int n), .val (.long xv), .second, .val (.long yv), .second, .unset, .unset, .unset, .unset, .unset, .unset, .unset, .unset, .unset, .unset, .unset, .unset, .unset, .unset]) rfl (q := 14) rfl ?_
  refine g_iloadN X0 hx (hb hby at_14) (v := c0) rfl (q := 15) rfl ?_
  refine g_ldcI X0 hx hZ hown (hw _ (List.mem_of_getElem? (i := 0) rfl)) (hb hby at_15) (q := 17) rfl ?_
  refine g_iand X0 hx (hb hby at_17) (z := (c0 &&& (2147483647 : Int32))) rfl (q := 18) rfl ?_
  refine g_i2l X0 hx (hb hby at_18) (z := zv) hz1 (q := 19) rfl ?_
  refine g_lstore X0 hx (hb hby at_19) (L' := #[.val (.int a), .val (.int b), .val (.int c0), .val (.int t), .val (.int n), .val (.long xv), .second, .val (.long yv), .second, .val (.long zv), .second, .unset, .unset, .unset, .unset, .unset, .unset, .unset, .unset, .unset, .unset, .unset, .unset]) rfl (q := 21) rfl ?_
  refine g_lload X0 hx (hb hby at_21) (v := xv) rfl (q := 23) rfl ?_
  refine g_lload X0 hx (hb hby at_23) (v := yv) rfl (q := 25) rfl ?_
  refine g_callS X0 hx hZ hown (hw _ (List.mem_of_getElem? (i := 1) rfl)) (hw _ (List.mem_of_getElem? (i := 2) rfl)) (hw _ (List.mem_of_getElem? (i := 3) rfl)) (hw _ (List.mem_of_getElem? (i := 4) rfl)) (by decide) e0 (rmMinL l Z a0 hw xv yv h0) (by exact hml.symm) (argsL := [(.long xv), (.long yv)]) (rest := []) rfl rfl pd_2 rfl (Nat.le_of_ble_eq_true rfl) (Nat.le_of_ble_eq_true rfl) (Nat.le_of_ble_eq_true rfl) (Nat.le_of_ble_eq_true rfl) (hb hby at_25) (q := 28) rfl (g_pure rfl rfl fun T401 X401 e401 => ?_)
  show Go p e below _ (T401.setTop (mkF m 28 #[.val (.int a), .val (.int b), .val (.int c0), .val (.int t), .val (.int n), .val (.long xv), .second, .val (.long yv), .second, .val (.long zv), .second, .unset, .unset, .unset, .unset, .unset, .unset, .unset, .unset, .unset, .unset, .unset, .unset] [(.long (own_minL xv yv))]))
  refine g_lload X401 hx (hb hby at_28) (v := zv) rfl (q := 30) rfl ?_
  refine g_callS X401 hx hZ hown (hw _ (List.mem_of_getElem? (i := 1) rfl)) (hw _ (List.mem_of_getElem? (i := 2) rfl)) (hw _ (List.mem_of_getElem? (i := 3) rfl)) (hw _ (List.mem_of_getElem? (i := 4) rfl)) (by decide) e401 (rmMinL l Z a0 hw (own_minL xv yv) zv h0) (by exact hml.symm) (argsL := [(.long (own_minL xv yv)), (.long zv)]) (rest := []) rfl rfl pd_2 rfl (Nat.le_of_ble_eq_true rfl) (Nat.le_of_ble_eq_true rfl) (Nat.le_of_ble_eq_true rfl) (Nat.le_of_ble_eq_true rfl) (hb hby at_30) (q := 33) rfl (g_pure rfl rfl fun T402 X402 e402 => ?_)
  show Go p e below _ (T402.setTop (mkF m 33 #[.val (.int a), .val (.int b), .val (.int c0), .val (.int t), .val (.int n), .val (.long xv), .second, .val (.long yv), .second, .val (.long zv), .second, .unset, .unset, .unset, .unset, .unset, .unset, .unset, .unset, .unset, .unset, .unset, .unset] [(.long (own_minL (own_minL xv yv) zv))]))
  refine g_lstore X402 hx (hb hby at_33) (L' := #[.val (.int a), .val (.int b), .val (.int c0), .val (.int t), .val (.int n), .val (.long xv), .second, .val (.long yv), .second, .val (.long zv), .second, .val (.long (own_minL (own_minL xv yv) zv)), .second, .unset, .unset, .unset, .unset, .unset, .unset, .unset, .unset, .unset, .unset]) rfl (q := 35) rfl ?_
  refine g_lload X402 hx (hb hby at_35) (v := xv) rfl (q := 37) rfl ?_
  refine g_lload X402 hx (hb hby at_37) (v := yv) rfl (q := 39) rfl ?_
  refine g_callS X402 hx hZ hown (hw _ (List.mem_of_getElem? (i := 5) rfl)) (hw _ (List.mem_of_getElem? (i := 6) rfl)) (hw _ (List.mem_of_getElem? (i := 3) rfl)) (hw _ (List.mem_of_getElem? (i := 7) rfl)) (by decide) e402 (rmMaxL l Z a0 hw xv yv h0) (by exact hml.symm) (argsL := [(.long xv), (.long yv)]) (rest := []) rfl rfl pd_2 rfl (Nat.le_of_ble_eq_true rfl) (Nat.le_of_ble_eq_true rfl) (Nat.le_of_ble_eq_true rfl) (Nat.le_of_ble_eq_true rfl) (hb hby at_39) (q := 42) rfl (g_pure rfl rfl fun T403 X403 e403 => ?_)
  show Go p e below _ (T403.setTop (mkF m 42 #[.val (.int a), .val (.int b), .val (.int c0), .val (.int t), .val (.int n), .val (.long xv), .second, .val (.long yv), .second, .val (.long zv), .second, .val (.long (own_minL (own_minL xv yv) zv)), .second, .unset, .unset, .unset, .unset, .unset, .unset, .unset, .unset, .unset, .unset] [(.long (own_maxL xv yv))]))
  refine g_lload X403 hx (hb hby at_42) (v := zv) rfl (q := 44) rfl ?_
  refine g_callS X403 hx hZ hown (hw _ (List.mem_of_getElem? (i := 5) rfl)) (hw _ (List.mem_of_getElem? (i := 6) rfl)) (hw _ (List.mem_of_getElem? (i := 3) rfl)) (hw _ (List.mem_of_getElem? (i := 7) rfl)) (by decide) e403 (rmMaxL l Z a0 hw (own_maxL xv yv) zv h0) (by exact hml.symm) (argsL := [(.long (own_maxL xv yv)), (.long zv)]) (rest := []) rfl rfl pd_2 rfl (Nat.le_of_ble_eq_true rfl) (Nat.le_of_ble_eq_true rfl) (Nat.le_of_ble_eq_true rfl) (Nat.le_of_ble_eq_true rfl) (hb hby at_44) (q := 47) rfl (g_pure rfl rfl fun T404 X404 e404 => ?_)
  show Go p e below _ (T404.setTop (mkF m 47 #[.val (.int a), .val (.int b), .val (.int c0), .val (.int t), .val (.int n), .val (.long xv), .second, .val (.long yv), .second, .val (.long zv), .second, .val (.long (own_minL (own_minL xv yv) zv)), .second, .unset, .unset, .unset, .unset, .unset, .unset, .unset, .unset, .unset, .unset] [(.long (own_maxL (own_maxL xv yv) zv))]))
  refine g_lstore X404 hx (hb hby at_47) (L' := #[.val (.int a), .val (.int b), .val (.int c0), .val (.int t), .val (.int n), .val (.long xv), .second, .val (.long yv), .second, .val (.long zv), .second, .val (.long (own_minL (own_minL xv yv) zv)), .second, .val (.long (own_maxL (own_maxL xv yv) zv)), .second, .unset, .unset, .unset, .unset, .unset, .unset, .unset, .unset]) rfl (q := 49) rfl ?_
  refine g_lload X404 hx (hb hby at_49) (v := xv) rfl (q := 51) rfl ?_
  refine g_lload X404 hx (hb hby at_51) (v := yv) rfl (q := 53) rfl ?_
  refine g_ladd X404 hx (hb hby at_53) (z := (xv + yv)) rfl (q := 54) rfl ?_
  refine g_lload X404 hx (hb hby at_54) (v := zv) rfl (q := 56) rfl ?_
  refine g_ladd X404 hx (hb hby at_56) (z := ((xv + yv) + zv)) rfl (q := 57) rfl ?_
  refine g_lload X404 hx (hb hby at_57) (v := (own_minL (own_minL xv yv) zv)) rfl (q := 59) rfl ?_
  refine g_lsub X404 hx (hb hby at_59) (z := (((xv + yv) + zv) - (own_minL (own_minL xv yv) zv))) rfl (q := 60) rfl ?_
  refine g_lload X404 hx (hb hby at_60) (v := (own_maxL (own_maxL xv yv) zv)) rfl (q := 62) rfl ?_
  refine g_lsub X404 hx (hb hby at_62) (z := ((((xv + yv) + zv) - (own_minL (own_minL xv yv) zv)) - (own_maxL (own_maxL xv yv) zv))) rfl (q := 63) rfl ?_
  refine g_lstore X404 hx (hb hby at_63) (L' := #[.val (.int a), .val (.int b), .val (.int c0), .val (.int t), .val (.int n), .val (.long xv), .second, .val (.long yv), .second, .val (.long zv), .second, .val (.long (own_minL (own_minL xv yv) zv)), .second, .val (.long (own_maxL (own_maxL xv yv) zv)), .second, .val (.long ((((xv + yv) + zv) - (own_minL (own_minL xv yv) zv)) - (own_maxL (own_maxL xv yv) zv))), .second, .unset, .unset, .unset, .unset, .unset, .unset]) rfl (q := 65) rfl ?_
  refine g_lload X404 hx (hb hby at_65) (v := (own_minL (own_minL xv yv) zv)) rfl (q := 67) rfl ?_
  refine g_l2i X404 hx (hb hby at_67) (z := p0) hp0 (q := 68) rfl ?_
  refine g_istore X404 hx (hb hby at_68) (L' := #[.val (.int a), .val (.int b), .val (.int c0), .val (.int t), .val (.int n), .val (.long xv), .second, .val (.long yv), .second, .val (.long zv), .second, .val (.long (own_minL (own_minL xv yv) zv)), .second, .val (.long (own_maxL (own_maxL xv yv) zv)), .second, .val (.long ((((xv + yv) + zv) - (own_minL (own_minL xv yv) zv)) - (own_maxL (own_maxL xv yv) zv))), .second, .val (.int p0), .unset, .unset, .unset, .unset, .unset]) rfl (q := 70) rfl ?_
  refine g_lload X404 hx (hb hby at_70) (v := ((((xv + yv) + zv) - (own_minL (own_minL xv yv) zv)) - (own_maxL (own_maxL xv yv) zv))) rfl (q := 72) rfl ?_
  refine g_l2i X404 hx (hb hby at_72) (z := p1) hp1 (q := 73) rfl ?_
  refine g_istore X404 hx (hb hby at_73) (L' := #[.val (.int a), .val (.int b), .val (.int c0), .val (.int t), .val (.int n), .val (.long xv), .second, .val (.long yv), .second, .val (.long zv), .second, .val (.long (own_minL (own_minL xv yv) zv)), .second, .val (.long (own_maxL (own_maxL xv yv) zv)), .second, .val (.long ((((xv + yv) + zv) - (own_minL (own_minL xv yv) zv)) - (own_maxL (own_maxL xv yv) zv))), .second, .val (.int p0), .val (.int p1), .unset, .unset, .unset, .unset]) rfl (q := 75) rfl ?_
  refine g_lload X404 hx (hb hby at_75) (v := (own_maxL (own_maxL xv yv) zv)) rfl (q := 77) rfl ?_
  refine g_l2i X404 hx (hb hby at_77) (z := p2) hp2 (q := 78) rfl ?_
  refine g_istore X404 hx (hb hby at_78) (L' := #[.val (.int a), .val (.int b), .val (.int c0), .val (.int t), .val (.int n), .val (.long xv), .second, .val (.long yv), .second, .val (.long zv), .second, .val (.long (own_minL (own_minL xv yv) zv)), .second, .val (.long (own_maxL (own_maxL xv yv) zv)), .second, .val (.long ((((xv + yv) + zv) - (own_minL (own_minL xv yv) zv)) - (own_maxL (own_maxL xv yv) zv))), .second, .val (.int p0), .val (.int p1), .val (.int p2), .unset, .unset, .unset]) rfl (q := 80) rfl ?_
  refine g_iload X404 hx (hb hby at_80) (v := n) rfl (q := 82) rfl ?_
  refine g_iconst X404 hx (hb hby at_82) (n := (3 : Int32)) (by decide) (q := 83) rfl ?_
  refine g_iand X404 hx (hb hby at_83) (z := (3 : Int32)) hk (q := 84) rfl ?_
  refine g_istore X404 hx (hb hby at_84) (L' := #[.val (.int a), .val (.int b), .val (.int c0), .val (.int t), .val (.int n), .val (.long xv), .second, .val (.long yv), .second, .val (.long zv), .second, .val (.long (own_minL (own_minL xv yv) zv)), .second, .val (.long (own_maxL (own_maxL xv yv) zv)), .second, .val (.long ((((xv + yv) + zv) - (own_minL (own_minL xv yv) zv)) - (own_maxL (own_maxL xv yv) zv))), .second, .val (.int p0), .val (.int p1), .val (.int p2), .val (.int (3 : Int32)), .unset, .unset]) rfl (q := 86) rfl ?_
  refine g_new X404 hx hZ hown (hw _ (List.mem_of_getElem? (i := 8) rfl)) (hw _ (List.mem_of_getElem? (i := 9) rfl)) (hw _ (List.mem_of_getElem? (i := 10) rfl)) e404 (hb hby at_86) (Nat.le_of_ble_eq_true rfl) (Nat.le_of_ble_eq_true rfl) (q := 89) rfl fun T405 h405 bi g405 X405 e405 E405 A405 D405 => ?_
  have ge_bi : n0 ≤ bi := Nat.le_trans Z0 (Nat.le_of_eq g405.symm)
  have z_405 := Nat.le_trans Z0 E405.1
  have F405_entries : Fld Z h405 bi "com/example/newlyn/newlyn/storage/SegmentIndex" "entries" "[J" .null := D405 (Or.inl (hw _ (List.mem_of_getElem? (i := 19) rfl))) (ty := (.array .long)) (by decide)
  have F405_count : Fld Z h405 bi "com/example/newlyn/newlyn/storage/SegmentIndex" "count" "I" (.int (0 : Int32)) := D405 (Or.inl (hw _ (List.mem_of_getElem? (i := 26) rfl))) (ty := .int) (by decide)
  refine g_dup X405 hx (hb hby at_89) rfl (q := 90) rfl ?_
  refine g_callI X405 hx hZ hown rfl (hw _ (List.mem_of_getElem? (i := 11) rfl)) (hw _ (List.mem_of_getElem? (i := 12) rfl)) (hw _ (List.mem_of_getElem? (i := 13) rfl)) (hw _ (List.mem_of_getElem? (i := 10) rfl)) (by decide) e405 (b := bi) (rmC l Z a0 hw bi h405 n0 z_405 ge_bi A405 F405_entries F405_count) (by exact hml.symm) (argsL := []) (rest := [(.ref bi)]) rfl rfl pd_3 rfl (Nat.le_of_ble_eq_true rfl) (Nat.le_of_ble_eq_true rfl) (Nat.le_of_ble_eq_true rfl) (Nat.le_of_ble_eq_true rfl) (hb hby at_90) (q := 93) rfl (fun v406 T406 L406 X406 hQ406 => ?_)
  generalize e406 : T406.heap = h406 at hQ406
  obtain ⟨rfl, M406, K406, A406, ae, g406, B406, C406, V406⟩ := hQ406
  have N406 := Fr.app (Fr.nil n0) M406
  have ne_bi_ae : bi ≠ ae := Nat.ne_of_lt (Nat.lt_of_lt_of_le A405.lt g406)
  have ge_ae : n0 ≤ ae := Nat.le_trans z_405 g406
  have Z406 : n0 ≤ h406.size := Nat.le_trans z_405 K406.1
  show Go p e below _ (T406.setTop (mkF m 93 #[.val (.int a), .val (.int b), .val (.int c0), .val (.int t), .val (.int n), .val (.long xv), .second, .val (.long yv), .second, .val (.long zv), .second, .val (.long (own_minL (own_minL xv yv) zv)), .second, .val (.long (own_maxL (own_maxL xv yv) zv)), .second, .val (.long ((((xv + yv) + zv) - (own_minL (own_minL xv yv) zv)) - (own_maxL (own_maxL xv yv) zv))), .second, .val (.int p0), .val (.int p1), .val (.int p2), .val (.int (3 : Int32)), .unset, .unset] [(.ref bi)]))
  refine g_astore X406 hx (hb hby at_93) rfl (L' := #[.val (.int a), .val (.int b), .val (.int c0), .val (.int t), .val (.int n), .val (.long xv), .second, .val (.long yv), .second, .val (.long zv), .second, .val (.long (own_minL (own_minL xv yv) zv)), .second, .val (.long (own_maxL (own_maxL xv yv) zv)), .second, .val (.long ((((xv + yv) + zv) - (own_minL (own_minL xv yv) zv)) - (own_maxL (own_maxL xv yv) zv))), .second, .val (.int p0), .val (.int p1), .val (.int p2), .val (.int (3 : Int32)), .val (.ref bi), .unset]) rfl (q := 95) rfl ?_
  refine g_iload X406 hx (hb hby at_95) (v := (3 : Int32)) rfl (q := 97) rfl ?_
  refine g_if_le X406 hx (hb hby at_97) (by decide) (q := 109) (by decide) (q2 := 100) rfl (fun hb97 => absurd hb97 (by decide)) (fun hb97 => ?_)
  refine g_aload X406 hx (hb hby at_100) (v := (.ref bi)) rfl rfl (q := 102) rfl ?_
  refine g_iconst X406 hx (hb hby at_102) (n := (0 : Int32)) (by decide) (q := 103) rfl ?_
  refine g_iload X406 hx (hb hby at_103) (v := p0) rfl (q := 105) rfl ?_
  refine g_lconst X406 hx (hb hby at_105) (n := (0 : Int64)) (by decide) (q := 106) rfl ?_
  refine g_callV X406 hx hZ hown (hw _ (List.mem_of_getElem? (i := 48) rfl)) (hw _ (List.mem_of_getElem? (i := 49) rfl)) (hw _ (List.mem_of_getElem? (i := 51) rfl)) (hw _ (List.mem_of_getElem? (i := 50) rfl)) (hw _ (List.mem_of_getElem? (i := 52) rfl)) (hw _ (List.mem_of_getElem? (i := 10) rfl)) (notFace_of_selects (args := #[]) (mvT hZ (hw _ (List.mem_of_getElem? (i := 51) rfl)))) (by decide) e406 A406 (rmA l Z a0 hw bi ae (0 : Int32) p0 (0 : Int64) (0 : Int32) (1 : Int32) (2 : Int32) (0 : Int32) (1 : Int32) (by decide) (by decide) (by decide) (by decide) (by decide) (fun _ => .long (0 : Int64)) h406 n0 (by decide) (by decide) (by decide) (by decide) ge_bi ge_ae ne_bi_ae A406 B406 C406 V406) (by exact hml.symm) (argsL := [(.int (0 : Int32)), (.int p0), (.long (0 : Int64))]) (rest := []) rfl rfl pd_7 rfl (Nat.le_of_ble_eq_true rfl) (Nat.le_of_ble_eq_true rfl) (Nat.le_of_ble_eq_true rfl) (Nat.le_of_ble_eq_true rfl) (hb hby at_106) (q := 109) rfl (fun v407 T407 L407 X407 hQ407 => ?_)
  generalize e407 : T407.heap = h407 at hQ407
  obtain ⟨rfl, M407, K407, A407, B407, C407, V407⟩ := hQ407
  have N407 := Fr.app N406 M407
  have Z407 : n0 ≤ h407.size := Nat.le_trans Z406 K407.1
  show Go p e below _ (T407.setTop (mkF m 109 #[.val (.int a), .val (.int b), .val (.int c0), .val (.int t), .val (.int n), .val (.long xv), .second, .val (.long yv), .second, .val (.long zv), .second, .val (.long (own_minL (own_minL xv yv) zv)), .second, .val (.long (own_maxL (own_maxL xv yv) zv)), .second, .val (.long ((((xv + yv) + zv) - (own_minL (own_minL xv yv) zv)) - (own_maxL (own_maxL xv yv) zv))), .second, .val (.int p0), .val (.int p1), .val (.int p2), .val (.int (3 : Int32)), .val (.ref bi), .unset] []))
  refine g_iload X407 hx (hb hby at_109) (v := (3 : Int32)) rfl (q := 111) rfl ?_
  refine g_iconst X407 hx (hb hby at_111) (n := (1 : Int32)) (by decide) (q := 112) rfl ?_
  refine g_icmp_le X407 hx (hb hby at_112) (by decide) (q := 124) (by decide) (q2 := 115) rfl (fun hb112 => absurd hb112 (by decide)) (fun hb112 => ?_)
  refine g_aload X407 hx (hb hby at_115) (v := (.ref bi)) rfl rfl (q := 117) rfl ?_
  refine g_iconst X407 hx (hb hby at_117) (n := (1 : Int32)) (by decide) (q := 118) rfl ?_
  refine g_iload X407 hx (hb hby at_118) (v := p1) rfl (q := 120) rfl ?_
  refine g_lconst X407 hx (hb hby at_120) (n := (1 : Int64)) (by decide) (q := 121) rfl ?_
  refine g_callV X407 hx hZ hown (hw _ (List.mem_of_getElem? (i := 48) rfl)) (hw _ (List.mem_of_getElem? (i := 49) rfl)) (hw _ (List.mem_of_getElem? (i := 51) rfl)) (hw _ (List.mem_of_getElem? (i := 50) rfl)) (hw _ (List.mem_of_getElem? (i := 52) rfl)) (hw _ (List.mem_of_getElem? (i := 10) rfl)) (notFace_of_selects (args := #[]) (mvT hZ (hw _ (List.mem_of_getElem? (i := 51) rfl)))) (by decide) e407 A407 (rmA l Z a0 hw bi ae (1 : Int32) p1 (1 : Int64) (1 : Int32) (2 : Int32) (4 : Int32) (2 : Int32) (3 : Int32) (by decide) (by decide) (by decide) (by decide) (by decide) (fun i => if i = (1 : Int32).toNatClampNeg then .long (0 : Int64) else if i = (0 : Int32).toNatClampNeg then .long (own_entry (0 : Int32) p0) else (fun _ => .long (0 : Int64)) i) h407 n0 (by decide) (by decide) (by decide) (by decide) ge_bi ge_ae ne_bi_ae A407 B407 C407 V407) (by exact hml.symm) (argsL := [(.int (1 : Int32)), (.int p1), (.long (1 : Int64))]) (rest := []) rfl rfl pd_7 rfl (Nat.le_of_ble_eq_true rfl) (Nat.le_of_ble_eq_true rfl) (Nat.le_of_ble_eq_true rfl) (Nat.le_of_ble_eq_true rfl) (hb hby at_121) (q := 124) rfl (fun v408 T408 L408 X408 hQ408 => ?_)
  generalize e408 : T408.heap = h408 at hQ408
  obtain ⟨rfl, M408, K408, A408, B408, C408, V408⟩ := hQ408
  have N408 := Fr.app N407 M408
  have Z408 : n0 ≤ h408.size := Nat.le_trans Z407 K408.1
  show Go p e below _ (T408.setTop (mkF m 124 #[.val (.int a), .val (.int b), .val (.int c0), .val (.int t), .val (.int n), .val (.long xv), .second, .val (.long yv), .second, .val (.long zv), .second, .val (.long (own_minL (own_minL xv yv) zv)), .second, .val (.long (own_maxL (own_maxL xv yv) zv)), .second, .val (.long ((((xv + yv) + zv) - (own_minL (own_minL xv yv) zv)) - (own_maxL (own_maxL xv yv) zv))), .second, .val (.int p0), .val (.int p1), .val (.int p2), .val (.int (3 : Int32)), .val (.ref bi), .unset] []))
  refine g_iload X408 hx (hb hby at_124) (v := (3 : Int32)) rfl (q := 126) rfl ?_
  refine g_iconst X408 hx (hb hby at_126) (n := (2 : Int32)) (by decide) (q := 127) rfl ?_
  refine g_icmp_le X408 hx (hb hby at_127) (by decide) (q := 141) (by decide) (q2 := 130) rfl (fun hb127 => absurd hb127 (by decide)) (fun hb127 => ?_)
  refine g_aload X408 hx (hb hby at_130) (v := (.ref bi)) rfl rfl (q := 132) rfl ?_
  refine g_iconst X408 hx (hb hby at_132) (n := (2 : Int32)) (by decide) (q := 133) rfl ?_
  refine g_iload X408 hx (hb hby at_133) (v := p2) rfl (q := 135) rfl ?_
  refine g_ldcJ X408 hx hZ hown (hw _ (List.mem_of_getElem? (i := 47) rfl)) (hb hby at_135) (q := 138) rfl ?_
  refine g_callV X408 hx hZ hown (hw _ (List.mem_of_getElem? (i := 48) rfl)) (hw _ (List.mem_of_getElem? (i := 49) rfl)) (hw _ (List.mem_of_getElem? (i := 51) rfl)) (hw _ (List.mem_of_getElem? (i := 50) rfl)) (hw _ (List.mem_of_getElem? (i := 52) rfl)) (hw _ (List.mem_of_getElem? (i := 10) rfl)) (notFace_of_selects (args := #[]) (mvT hZ (hw _ (List.mem_of_getElem? (i := 51) rfl)))) (by decide) e408 A408 (rmA l Z a0 hw bi ae (2 : Int32) p2 (2 : Int64) (2 : Int32) (3 : Int32) (6 : Int32) (4 : Int32) (5 : Int32) (by decide) (by decide) (by decide) (by decide) (by decide) (fun i => if i = (3 : Int32).toNatClampNeg then .long (1 : Int64) else if i = (2 : Int32).toNatClampNeg then .long (own_entry (1 : Int32) p1) else (fun i => if i = (1 : Int32).toNatClampNeg then .long (0 : Int64) else if i = (0 : Int32).toNatClampNeg then .long (own_entry (0 : Int32) p0) else (fun _ => .long (0 : Int64)) i) i) h408 n0 (by decide) (by decide) (by decide) (by decide) ge_bi ge_ae ne_bi_ae A408 B408 C408 V408) (by exact hml.symm) (argsL := [(.int (2 : Int32)), (.int p2), (.long (2 : Int64))]) (rest := []) rfl rfl pd_7 rfl (Nat.le_of_ble_eq_true rfl) (Nat.le_of_ble_eq_true rfl) (Nat.le_of_ble_eq_true rfl) (Nat.le_of_ble_eq_true rfl) (hb hby at_138) (q := 141) rfl (fun v409 T409 L409 X409 hQ409 => ?_)
  generalize e409 : T409.heap = h409 at hQ409
  obtain ⟨rfl, M409, K409, A409, B409, C409, V409⟩ := hQ409
  have N409 := Fr.app N408 M409
  have Z409 : n0 ≤ h409.size := Nat.le_trans Z408 K409.1
  show Go p e below _ (T409.setTop (mkF m 141 #[.val (.int a), .val (.int b), .val (.int c0), .val (.int t), .val (.int n), .val (.long xv), .second, .val (.long yv), .second, .val (.long zv), .second, .val (.long (own_minL (own_minL xv yv) zv)), .second, .val (.long (own_maxL (own_maxL xv yv) zv)), .second, .val (.long ((((xv + yv) + zv) - (own_minL (own_minL xv yv) zv)) - (own_maxL (own_maxL xv yv) zv))), .second, .val (.int p0), .val (.int p1), .val (.int p2), .val (.int (3 : Int32)), .val (.ref bi), .unset] []))
  refine g_aload X409 hx (hb hby at_141) (v := (.ref bi)) rfl rfl (q := 143) rfl ?_
  refine g_iloadN X409 hx (hb hby at_143) (v := t) rfl (q := 144) rfl ?_
  have q0 : ((fun i => if i = (5 : Int32).toNatClampNeg then .long (2 : Int64) else if i = (4 : Int32).toNatClampNeg then .long (own_entry (2 : Int32) p2) else (fun i => if i = (3 : Int32).toNatClampNeg then .long (1 : Int64) else if i = (2 : Int32).toNatClampNeg then .long (own_entry (1 : Int32) p1) else (fun i => if i = (1 : Int32).toNatClampNeg then .long (0 : Int64) else if i = (0 : Int32).toNatClampNeg then .long (own_entry (0 : Int32) p0) else (fun _ => .long (0 : Int64)) i) i) i) : Nat → Value) (0 : Int32).toNatClampNeg = .long (own_entry (0 : Int32) p0) := by rfl
  have r0 := own_entry_pos (0 : Int32) p0 (by decide) g0
  have o0 : own_off (own_entry (0 : Int32) p0) = (0 : Int64) := (own_entry_off (0 : Int32) p0 (by decide) g0).trans (by decide)
  have q1 : ((fun i => if i = (5 : Int32).toNatClampNeg then .long (2 : Int64) else if i = (4 : Int32).toNatClampNeg then .long (own_entry (2 : Int32) p2) else (fun i => if i = (3 : Int32).toNatClampNeg then .long (1 : Int64) else if i = (2 : Int32).toNatClampNeg then .long (own_entry (1 : Int32) p1) else (fun i => if i = (1 : Int32).toNatClampNeg then .long (0 : Int64) else if i = (0 : Int32).toNatClampNeg then .long (own_entry (0 : Int32) p0) else (fun _ => .long (0 : Int64)) i) i) i) : Nat → Value) (2 : Int32).toNatClampNeg = .long (own_entry (1 : Int32) p1) := by rfl
  have r1 := own_entry_pos (1 : Int32) p1 (by decide) g1
  have o1 : own_off (own_entry (1 : Int32) p1) = (1 : Int64) := (own_entry_off (1 : Int32) p1 (by decide) g1).trans (by decide)
  have q2 : ((fun i => if i = (5 : Int32).toNatClampNeg then .long (2 : Int64) else if i = (4 : Int32).toNatClampNeg then .long (own_entry (2 : Int32) p2) else (fun i => if i = (3 : Int32).toNatClampNeg then .long (1 : Int64) else if i = (2 : Int32).toNatClampNeg then .long (own_entry (1 : Int32) p1) else (fun i => if i = (1 : Int32).toNatClampNeg then .long (0 : Int64) else if i = (0 : Int32).toNatClampNeg then .long (own_entry (0 : Int32) p0) else (fun _ => .long (0 : Int64)) i) i) i) : Nat → Value) (4 : Int32).toNatClampNeg = .long (own_entry (2 : Int32) p2) := by rfl
  have r2 := own_entry_pos (2 : Int32) p2 (by decide) g2
  have o2 : own_off (own_entry (2 : Int32) p2) = (2 : Int64) := (own_entry_off (2 : Int32) p2 (by decide) g2).trans (by decide)
  refine g_callV X409 hx hZ hown (hw _ (List.mem_of_getElem? (i := 20) rfl)) (hw _ (List.mem_of_getElem? (i := 21) rfl)) (hw _ (List.mem_of_getElem? (i := 23) rfl)) (hw _ (List.mem_of_getElem? (i := 22) rfl)) (hw _ (List.mem_of_getElem? (i := 24) rfl)) (hw _ (List.mem_of_getElem? (i := 10) rfl)) (notFace_of_selects (args := #[]) (mvT hZ (hw _ (List.mem_of_getElem? (i := 23) rfl)))) (by decide) e409 A409 (rmT3 l Z a0 hw bi ae t p0 p1 p2 (own_entry (0 : Int32) p0) (own_entry (1 : Int32) p1) (own_entry (2 : Int32) p2) (fun i => if i = (5 : Int32).toNatClampNeg then .long (2 : Int64) else if i = (4 : Int32).toNatClampNeg then .long (own_entry (2 : Int32) p2) else (fun i => if i = (3 : Int32).toNatClampNeg then .long (1 : Int64) else if i = (2 : Int32).toNatClampNeg then .long (own_entry (1 : Int32) p1) else (fun i => if i = (1 : Int32).toNatClampNeg then .long (0 : Int64) else if i = (0 : Int32).toNatClampNeg then .long (own_entry (0 : Int32) p0) else (fun _ => .long (0 : Int64)) i) i) i) h409 n0 ge_bi ne_bi_ae A409 B409 C409 V409 q0 r0 q1 r1 q2 r2) (by exact hml.symm) (argsL := [(.int t)]) (rest := []) rfl rfl pd_4 rfl (Nat.le_of_ble_eq_true rfl) (Nat.le_of_ble_eq_true rfl) (Nat.le_of_ble_eq_true rfl) (Nat.le_of_ble_eq_true rfl) (hb hby at_144) (q := 147) rfl (fun v410 T410 L410 X410 hQ410 => ?_)
  generalize e410 : T410.heap = h410 at hQ410
  obtain ⟨rfl, M410, K410, A410, B410, C410⟩ := hQ410
  have N410 := Fr.app N409 M410
  have Z410 : n0 ≤ h410.size := Nat.le_trans Z409 K410.1
  have V410 := V409.keep K410 (ninS (Ne.symm ne_bi_ae) nin0)
  rw [show own_tr3 t p0 p1 p2 = (2 : Int32) from by rw [own_tr3, if_neg lt2, if_pos lt1]] at C410
  show Go p e below _ (T410.setTop (mkF m 147 #[.val (.int a), .val (.int b), .val (.int c0), .val (.int t), .val (.int n), .val (.long xv), .second, .val (.long yv), .second, .val (.long zv), .second, .val (.long (own_minL (own_minL xv yv) zv)), .second, .val (.long (own_maxL (own_maxL xv yv) zv)), .second, .val (.long ((((xv + yv) + zv) - (own_minL (own_minL xv yv) zv)) - (own_maxL (own_maxL xv yv) zv))), .second, .val (.int p0), .val (.int p1), .val (.int p2), .val (.int (3 : Int32)), .val (.ref bi), .unset] []))
  refine g_iconst X410 hx (hb hby at_147) (n := (0 : Int32)) (by decide) (q := 148) rfl ?_
  refine g_istore X410 hx (hb hby at_148) (L' := #[.val (.int a), .val (.int b), .val (.int c0), .val (.int t), .val (.int n), .val (.long xv), .second, .val (.long yv), .second, .val (.long zv), .second, .val (.long (own_minL (own_minL xv yv) zv)), .second, .val (.long (own_maxL (own_maxL xv yv) zv)), .second, .val (.long ((((xv + yv) + zv) - (own_minL (own_minL xv yv) zv)) - (own_maxL (own_maxL xv yv) zv))), .second, .val (.int p0), .val (.int p1), .val (.int p2), .val (.int (3 : Int32)), .val (.ref bi), .val (.int (0 : Int32))]) rfl (q := 150) rfl ?_
  refine g_iload X410 hx (hb hby at_150) (v := (3 : Int32)) rfl (q := 152) rfl ?_
  refine g_if_le X410 hx (hb hby at_152) (by decide) (q := 164) (by decide) (q2 := 155) rfl (fun hb152 => absurd hb152 (by decide)) (fun hb152 => ?_)
  refine g_iload X410 hx (hb hby at_155) (v := p0) rfl (q := 157) rfl ?_
  refine g_iloadN X410 hx (hb hby at_157) (v := t) rfl (q := 158) rfl ?_
  refine g_icmp_ge X410 hx (hb hby at_158) (by decide) (q := 164) (by decide) (q2 := 161) rfl (fun hb158 => absurd hb158 (not_not_intro lt0)) (fun hb158 => ?_)
  refine g_iconst X410 hx (hb hby at_161) (n := (1 : Int32)) (by decide) (q := 162) rfl ?_
  refine g_istore X410 hx (hb hby at_162) (L' := #[.val (.int a), .val (.int b), .val (.int c0), .val (.int t), .val (.int n), .val (.long xv), .second, .val (.long yv), .second, .val (.long zv), .second, .val (.long (own_minL (own_minL xv yv) zv)), .second, .val (.long (own_maxL (own_maxL xv yv) zv)), .second, .val (.long ((((xv + yv) + zv) - (own_minL (own_minL xv yv) zv)) - (own_maxL (own_maxL xv yv) zv))), .second, .val (.int p0), .val (.int p1), .val (.int p2), .val (.int (3 : Int32)), .val (.ref bi), .val (.int (1 : Int32))]) rfl (q := 164) rfl ?_
  refine g_iload X410 hx (hb hby at_164) (v := (1 : Int32)) rfl (q := 166) rfl ?_
  refine g_iconst X410 hx (hb hby at_166) (n := (1 : Int32)) (by decide) (q := 167) rfl ?_
  refine g_icmp_ne X410 hx (hb hby at_167) (by decide) (q := 185) (by decide) (q2 := 170) rfl (fun hb167 => absurd hb167 (by decide)) (fun hb167 => ?_)
  refine g_iload X410 hx (hb hby at_170) (v := (3 : Int32)) rfl (q := 172) rfl ?_
  refine g_iconst X410 hx (hb hby at_172) (n := (1 : Int32)) (by decide) (q := 173) rfl ?_
  refine g_icmp_le X410 hx (hb hby at_173) (by decide) (q := 185) (by decide) (q2 := 176) rfl (fun hb173 => absurd hb173 (by decide)) (fun hb173 => ?_)
  refine g_iload X410 hx (hb hby at_176) (v := p1) rfl (q := 178) rfl ?_
  refine g_iloadN X410 hx (hb hby at_178) (v := t) rfl (q := 179) rfl ?_
  refine g_icmp_ge X410 hx (hb hby at_179) (by decide) (q := 185) (by decide) (q2 := 182) rfl (fun hb179 => absurd hb179 (not_not_intro lt1)) (fun hb179 => ?_)
  refine g_iconst X410 hx (hb hby at_182) (n := (2 : Int32)) (by decide) (q := 183) rfl ?_
  refine g_istore X410 hx (hb hby at_183) (L' := #[.val (.int a), .val (.int b), .val (.int c0), .val (.int t), .val (.int n), .val (.long xv), .second, .val (.long yv), .second, .val (.long zv), .second, .val (.long (own_minL (own_minL xv yv) zv)), .second, .val (.long (own_maxL (own_maxL xv yv) zv)), .second, .val (.long ((((xv + yv) + zv) - (own_minL (own_minL xv yv) zv)) - (own_maxL (own_maxL xv yv) zv))), .second, .val (.int p0), .val (.int p1), .val (.int p2), .val (.int (3 : Int32)), .val (.ref bi), .val (.int (2 : Int32))]) rfl (q := 185) rfl ?_
  refine g_iload X410 hx (hb hby at_185) (v := (2 : Int32)) rfl (q := 187) rfl ?_
  refine g_iconst X410 hx (hb hby at_187) (n := (2 : Int32)) (by decide) (q := 188) rfl ?_
  refine g_icmp_ne X410 hx (hb hby at_188) (by decide) (q := 206) (by decide) (q2 := 191) rfl (fun hb188 => absurd hb188 (by decide)) (fun hb188 => ?_)
  refine g_iload X410 hx (hb hby at_191) (v := (3 : Int32)) rfl (q := 193) rfl ?_
  refine g_iconst X410 hx (hb hby at_193) (n := (2 : Int32)) (by decide) (q := 194) rfl ?_
  refine g_icmp_le X410 hx (hb hby at_194) (by decide) (q := 206) (by decide) (q2 := 197) rfl (fun hb194 => absurd hb194 (by decide)) (fun hb194 => ?_)
  refine g_iload X410 hx (hb hby at_197) (v := p2) rfl (q := 199) rfl ?_
  refine g_iloadN X410 hx (hb hby at_199) (v := t) rfl (q := 200) rfl ?_
  refine g_icmp_ge X410 hx (hb hby at_200) (by decide) (q := 206) (by decide) (q2 := 203) rfl (fun hb200 => ?_) (fun hb200 => absurd hb200 lt2)
  refine g_aload X410 hx (hb hby at_206) (v := (.ref bi)) rfl rfl (q := 208) rfl ?_
  refine g_lconst X410 hx (hb hby at_208) (n := (0 : Int64)) (by decide) (q := 209) rfl ?_
  refine g_callVH X410 hx hH hown (hw _ (List.mem_of_getElem? (i := 27) rfl)) (hw _ (List.mem_of_getElem? (i := 28) rfl)) (hw _ (List.mem_of_getElem? (i := 30) rfl)) (hw _ (List.mem_of_getElem? (i := 29) rfl)) (hw _ (List.mem_of_getElem? (i := 31) rfl)) (hw _ (List.mem_of_getElem? (i := 10) rfl)) (notFace_of_selects (args := #[]) (mvT hZ (hw _ (List.mem_of_getElem? (i := 30) rfl)))) (by decide) e410 A410 (rmF20 l Z a0 hw bi ae (own_entry (0 : Int32) p0) p0 (own_entry (1 : Int32) p1) p1 (fun i => if i = (5 : Int32).toNatClampNeg then .long (2 : Int64) else if i = (4 : Int32).toNatClampNeg then .long (own_entry (2 : Int32) p2) else (fun i => if i = (3 : Int32).toNatClampNeg then .long (1 : Int64) else if i = (2 : Int32).toNatClampNeg then .long (own_entry (1 : Int32) p1) else (fun i => if i = (1 : Int32).toNatClampNeg then .long (0 : Int64) else if i = (0 : Int32).toNatClampNeg then .long (own_entry (0 : Int32) p0) else (fun _ => .long (0 : Int64)) i) i) i) h410 A410 B410 C410 V410 q0 r0 o0 q1 r1 o1) (by exact hml.symm) (argsL := [(.long (0 : Int64))]) (rest := []) rfl rfl pd_5 rfl (Nat.le_of_ble_eq_true rfl) (Nat.le_of_ble_eq_true rfl) (Nat.le_of_ble_eq_true rfl) (Nat.le_of_ble_eq_true rfl) (hb hby at_209) (q := 212) rfl (fun v411 T411 L411 X411 hQ411 => ?_)
  generalize e411 : T411.heap = h411 at hQ411
  obtain ⟨rfl, rfl, E411⟩ := hQ411
  have z_411 := Nat.le_trans Z410 E411.1
  have f412 := (A410.ext E411)
  have f413 := (B410.ext E411)
  have f414 := (C410.ext E411)
  have f415 := (V410.ext E411)
  have N411 := Fr.app N410 (Fr.nil n0)
  show Go p e below _ (T411.setTop (mkF m 212 #[.val (.int a), .val (.int b), .val (.int c0), .val (.int t), .val (.int n), .val (.long xv), .second, .val (.long yv), .second, .val (.long zv), .second, .val (.long (own_minL (own_minL xv yv) zv)), .second, .val (.long (own_maxL (own_maxL xv yv) zv)), .second, .val (.long ((((xv + yv) + zv) - (own_minL (own_minL xv yv) zv)) - (own_maxL (own_maxL xv yv) zv))), .second, .val (.int p0), .val (.int p1), .val (.int p2), .val (.int (3 : Int32)), .val (.ref bi), .val (.int (2 : Int32))] [(.int p0)]))
  refine g_iconst X411 hx (hb hby at_212) (n := (0 : Int32)) (by decide) (q := 213) rfl ?_
  refine g_iload X411 hx (hb hby at_213) (v := (2 : Int32)) rfl (q := 215) rfl ?_
  refine g_iload X411 hx (hb hby at_215) (v := p0) rfl (q := 217) rfl ?_
  refine g_iload X411 hx (hb hby at_217) (v := p1) rfl (q := 219) rfl ?_
  refine g_iload X411 hx (hb hby at_219) (v := p2) rfl (q := 221) rfl ?_
  refine g_callS X411 hx hZ hown (hw _ (List.mem_of_getElem? (i := 40) rfl)) (hw _ (List.mem_of_getElem? (i := 41) rfl)) (hw _ (List.mem_of_getElem? (i := 42) rfl)) (hw _ (List.mem_of_getElem? (i := 43) rfl)) (by decide) e411 (rmX l Z a0 hw (0 : Int32) (2 : Int32) p0 p1 p2 p0 (own_exp_02 p0 p1 p2) h411) (by exact hml.symm) (argsL := [(.int (0 : Int32)), (.int (2 : Int32)), (.int p0), (.int p1), (.int p2)]) (rest := [(.int p0)]) rfl rfl pd_6 rfl (Nat.le_of_ble_eq_true rfl) (Nat.le_of_ble_eq_true rfl) (Nat.le_of_ble_eq_true rfl) (Nat.le_of_ble_eq_true rfl) (hb hby at_221) (q := 224) rfl (g_pure rfl rfl fun T416 X416 e416 => ?_)
  show Go p e below _ (T416.setTop (mkF m 224 #[.val (.int a), .val (.int b), .val (.int c0), .val (.int t), .val (.int n), .val (.long xv), .second, .val (.long yv), .second, .val (.long zv), .second, .val (.long (own_minL (own_minL xv yv) zv)), .second, .val (.long (own_maxL (own_maxL xv yv) zv)), .second, .val (.long ((((xv + yv) + zv) - (own_minL (own_minL xv yv) zv)) - (own_maxL (own_maxL xv yv) zv))), .second, .val (.int p0), .val (.int p1), .val (.int p2), .val (.int (3 : Int32)), .val (.ref bi), .val (.int (2 : Int32))] [(.int p0), (.int p0)]))
  refine g_icmp_ne X416 hx (hb hby at_224) (by decide) (q := 275) (by decide) (q2 := 227) rfl (fun hb224 => absurd hb224 (not_not_intro rfl)) (fun hb224 => ?_)
  refine g_aload X416 hx (hb hby at_227) (v := (.ref bi)) rfl rfl (q := 229) rfl ?_
  refine g_lconst X416 hx (hb hby at_229) (n := (1 : Int64)) (by decide) (q := 230) rfl ?_
  refine g_callVH X416 hx hH hown (hw _ (List.mem_of_getElem? (i := 27) rfl)) (hw _ (List.mem_of_getElem? (i := 28) rfl)) (hw _ (List.mem_of_getElem? (i := 30) rfl)) (hw _ (List.mem_of_getElem? (i := 29) rfl)) (hw _ (List.mem_of_getElem? (i := 31) rfl)) (hw _ (List.mem_of_getElem? (i := 10) rfl)) (notFace_of_selects (args := #[]) (mvT hZ (hw _ (List.mem_of_getElem? (i := 30) rfl)))) (by decide) e416 f412 (rmF21 l Z a0 hw bi ae (own_entry (0 : Int32) p0) p0 (own_entry (1 : Int32) p1) p1 (fun i => if i = (5 : Int32).toNatClampNeg then .long (2 : Int64) else if i = (4 : Int32).toNatClampNeg then .long (own_entry (2 : Int32) p2) else (fun i => if i = (3 : Int32).toNatClampNeg then .long (1 : Int64) else if i = (2 : Int32).toNatClampNeg then .long (own_entry (1 : Int32) p1) else (fun i => if i = (1 : Int32).toNatClampNeg then .long (0 : Int64) else if i = (0 : Int32).toNatClampNeg then .long (own_entry (0 : Int32) p0) else (fun _ => .long (0 : Int64)) i) i) i) h411 f412 f413 f414 f415 q0 r0 o0 q1 r1 o1) (by exact hml.symm) (argsL := [(.long (1 : Int64))]) (rest := []) rfl rfl pd_5 rfl (Nat.le_of_ble_eq_true rfl) (Nat.le_of_ble_eq_true rfl) (Nat.le_of_ble_eq_true rfl) (Nat.le_of_ble_eq_true rfl) (hb hby at_230) (q := 233) rfl (fun v417 T417 L417 X417 hQ417 => ?_)
  generalize e417 : T417.heap = h417 at hQ417
  obtain ⟨rfl, rfl, E417⟩ := hQ417
  have z_417 := Nat.le_trans z_411 E417.1
  have f418 := (f412.ext E417)
  have f419 := (f413.ext E417)
  have f420 := (f414.ext E417)
  have f421 := (f415.ext E417)
  have N417 := Fr.app N411 (Fr.nil n0)
  show Go p e below _ (T417.setTop (mkF m 233 #[.val (.int a), .val (.int b), .val (.int c0), .val (.int t), .val (.int n), .val (.long xv), .second, .val (.long yv), .second, .val (.long zv), .second, .val (.long (own_minL (own_minL xv yv) zv)), .second, .val (.long (own_maxL (own_maxL xv yv) zv)), .second, .val (.long ((((xv + yv) + zv) - (own_minL (own_minL xv yv) zv)) - (own_maxL (own_maxL xv yv) zv))), .second, .val (.int p0), .val (.int p1), .val (.int p2), .val (.int (3 : Int32)), .val (.ref bi), .val (.int (2 : Int32))] [(.int p1)]))
  refine g_iconst X417 hx (hb hby at_233) (n := (1 : Int32)) (by decide) (q := 234) rfl ?_
  refine g_iload X417 hx (hb hby at_234) (v := (2 : Int32)) rfl (q := 236) rfl ?_
  refine g_iload X417 hx (hb hby at_236) (v := p0) rfl (q := 238) rfl ?_
  refine g_iload X417 hx (hb hby at_238) (v := p1) rfl (q := 240) rfl ?_
  refine g_iload X417 hx (hb hby at_240) (v := p2) rfl (q := 242) rfl ?_
  refine g_callS X417 hx hZ hown (hw _ (List.mem_of_getElem? (i := 40) rfl)) (hw _ (List.mem_of_getElem? (i := 41) rfl)) (hw _ (List.mem_of_getElem? (i := 42) rfl)) (hw _ (List.mem_of_getElem? (i := 43) rfl)) (by decide) e417 (rmX l Z a0 hw (1 : Int32) (2 : Int32) p0 p1 p2 p1 (own_exp_12 p0 p1 p2) h417) (by exact hml.symm) (argsL := [(.int (1 : Int32)), (.int (2 : Int32)), (.int p0), (.int p1), (.int p2)]) (rest := [(.int p1)]) rfl rfl pd_6 rfl (Nat.le_of_ble_eq_true rfl) (Nat.le_of_ble_eq_true rfl) (Nat.le_of_ble_eq_true rfl) (Nat.le_of_ble_eq_true rfl) (hb hby at_242) (q := 245) rfl (g_pure rfl rfl fun T422 X422 e422 => ?_)
  show Go p e below _ (T422.setTop (mkF m 245 #[.val (.int a), .val (.int b), .val (.int c0), .val (.int t), .val (.int n), .val (.long xv), .second, .val (.long yv), .second, .val (.long zv), .second, .val (.long (own_minL (own_minL xv yv) zv)), .second, .val (.long (own_maxL (own_maxL xv yv) zv)), .second, .val (.long ((((xv + yv) + zv) - (own_minL (own_minL xv yv) zv)) - (own_maxL (own_maxL xv yv) zv))), .second, .val (.int p0), .val (.int p1), .val (.int p2), .val (.int (3 : Int32)), .val (.ref bi), .val (.int (2 : Int32))] [(.int p1), (.int p1)]))
  refine g_icmp_ne X422 hx (hb hby at_245) (by decide) (q := 275) (by decide) (q2 := 248) rfl (fun hb245 => absurd hb245 (not_not_intro rfl)) (fun hb245 => ?_)
  refine g_aload X422 hx (hb hby at_248) (v := (.ref bi)) rfl rfl (q := 250) rfl ?_
  refine g_ldcJ X422 hx hZ hown (hw _ (List.mem_of_getElem? (i := 47) rfl)) (hb hby at_250) (q := 253) rfl ?_
  refine g_callVH X422 hx hH hown (hw _ (List.mem_of_getElem? (i := 27) rfl)) (hw _ (List.mem_of_getElem? (i := 28) rfl)) (hw _ (List.mem_of_getElem? (i := 30) rfl)) (hw _ (List.mem_of_getElem? (i := 29) rfl)) (hw _ (List.mem_of_getElem? (i := 31) rfl)) (hw _ (List.mem_of_getElem? (i := 10) rfl)) (notFace_of_selects (args := #[]) (mvT hZ (hw _ (List.mem_of_getElem? (i := 30) rfl)))) (by decide) e422 f418 (rmF22 l Z a0 hw bi ae (own_entry (0 : Int32) p0) p0 (own_entry (1 : Int32) p1) p1 (fun i => if i = (5 : Int32).toNatClampNeg then .long (2 : Int64) else if i = (4 : Int32).toNatClampNeg then .long (own_entry (2 : Int32) p2) else (fun i => if i = (3 : Int32).toNatClampNeg then .long (1 : Int64) else if i = (2 : Int32).toNatClampNeg then .long (own_entry (1 : Int32) p1) else (fun i => if i = (1 : Int32).toNatClampNeg then .long (0 : Int64) else if i = (0 : Int32).toNatClampNeg then .long (own_entry (0 : Int32) p0) else (fun _ => .long (0 : Int64)) i) i) i) h417 f418 f419 f420 f421 q0 r0 o0 q1 r1 o1) (by exact hml.symm) (argsL := [(.long (2 : Int64))]) (rest := []) rfl rfl pd_5 rfl (Nat.le_of_ble_eq_true rfl) (Nat.le_of_ble_eq_true rfl) (Nat.le_of_ble_eq_true rfl) (Nat.le_of_ble_eq_true rfl) (hb hby at_253) (q := 256) rfl (fun v423 T423 L423 X423 hQ423 => ?_)
  generalize e423 : T423.heap = h423 at hQ423
  obtain ⟨rfl, rfl, E423⟩ := hQ423
  have z_423 := Nat.le_trans z_417 E423.1
  have f424 := (f418.ext E423)
  have f425 := (f419.ext E423)
  have f426 := (f420.ext E423)
  have f427 := (f421.ext E423)
  have N423 := Fr.app N417 (Fr.nil n0)
  show Go p e below _ (T423.setTop (mkF m 256 #[.val (.int a), .val (.int b), .val (.int c0), .val (.int t), .val (.int n), .val (.long xv), .second, .val (.long yv), .second, .val (.long zv), .second, .val (.long (own_minL (own_minL xv yv) zv)), .second, .val (.long (own_maxL (own_maxL xv yv) zv)), .second, .val (.long ((((xv + yv) + zv) - (own_minL (own_minL xv yv) zv)) - (own_maxL (own_maxL xv yv) zv))), .second, .val (.int p0), .val (.int p1), .val (.int p2), .val (.int (3 : Int32)), .val (.ref bi), .val (.int (2 : Int32))] [(.int p1)]))
  refine g_iconst X423 hx (hb hby at_256) (n := (2 : Int32)) (by decide) (q := 257) rfl ?_
  refine g_iload X423 hx (hb hby at_257) (v := (2 : Int32)) rfl (q := 259) rfl ?_
  refine g_iload X423 hx (hb hby at_259) (v := p0) rfl (q := 261) rfl ?_
  refine g_iload X423 hx (hb hby at_261) (v := p1) rfl (q := 263) rfl ?_
  refine g_iload X423 hx (hb hby at_263) (v := p2) rfl (q := 265) rfl ?_
  refine g_callS X423 hx hZ hown (hw _ (List.mem_of_getElem? (i := 40) rfl)) (hw _ (List.mem_of_getElem? (i := 41) rfl)) (hw _ (List.mem_of_getElem? (i := 42) rfl)) (hw _ (List.mem_of_getElem? (i := 43) rfl)) (by decide) e423 (rmX l Z a0 hw (2 : Int32) (2 : Int32) p0 p1 p2 p1 (own_exp_22 p0 p1 p2) h423) (by exact hml.symm) (argsL := [(.int (2 : Int32)), (.int (2 : Int32)), (.int p0), (.int p1), (.int p2)]) (rest := [(.int p1)]) rfl rfl pd_6 rfl (Nat.le_of_ble_eq_true rfl) (Nat.le_of_ble_eq_true rfl) (Nat.le_of_ble_eq_true rfl) (Nat.le_of_ble_eq_true rfl) (hb hby at_265) (q := 268) rfl (g_pure rfl rfl fun T428 X428 e428 => ?_)
  show Go p e below _ (T428.setTop (mkF m 268 #[.val (.int a), .val (.int b), .val (.int c0), .val (.int t), .val (.int n), .val (.long xv), .second, .val (.long yv), .second, .val (.long zv), .second, .val (.long (own_minL (own_minL xv yv) zv)), .second, .val (.long (own_maxL (own_maxL xv yv) zv)), .second, .val (.long ((((xv + yv) + zv) - (own_minL (own_minL xv yv) zv)) - (own_maxL (own_maxL xv yv) zv))), .second, .val (.int p0), .val (.int p1), .val (.int p2), .val (.int (3 : Int32)), .val (.ref bi), .val (.int (2 : Int32))] [(.int p1), (.int p1)]))
  refine g_icmp_ne X428 hx (hb hby at_268) (by decide) (q := 275) (by decide) (q2 := 271) rfl (fun hb268 => absurd hb268 (not_not_intro rfl)) (fun hb268 => ?_)
  refine g_iconst X428 hx (hb hby at_271) (n := (1 : Int32)) (by decide) (q := 272) rfl ?_
  refine g_goto X428 hx (hb hby at_272) (by decide) (q := 276) (by decide) ?_
  exact g_retB X428 hx hret hlk (hb hby at_276) (by decide) ⟨rfl, by simpa using N423⟩ (Nat.le_of_ble_eq_true rfl) (Nat.le_of_ble_eq_true rfl)
set_option maxRecDepth 65536 in
set_option maxHeartbeats 40000000 in
theorem law33 (l : Launch) (Z : State) (a0 : Array Value) (hw : ∀ d ∈ tables_1, d.before a0 Z = true) (a b c0 t n : Int32) (xv yv zv : Int64) (p0 p1 p2 : Int32) (h0 : Heap) (n0 : Nat) (Z0 : n0 ≤ h0.size) (hx1 : (a &&& (2147483647 : Int32)).toInt64 = xv) (hy1 : (b &&& (2147483647 : Int32)).toInt64 = yv) (hz1 : (c0 &&& (2147483647 : Int32)).toInt64 = zv) (hp0 : (own_minL (own_minL xv yv) zv).toInt32 = p0) (hp1 : ((((xv + yv) + zv) - (own_minL (own_minL xv yv) zv)) - (own_maxL (own_maxL xv yv) zv)).toInt32 = p1) (hp2 : (own_maxL (own_maxL xv yv) zv).toInt32 = p2) (g0 : ¬ p0 < 0) (g1 : ¬ p1 < 0) (g2 : ¬ p2 < 0) (hk : n &&& (3 : Int32) = 3) (lt0 : p0 < t) (lt1 : p1 < t) (lt2 : p2 < t) :
    ConH l Z h0 x code maxLocals ret room_1 #[(.int a), (.int b), (.int c0), (.int t), (.int n)] (fun v h L => v = some (.int 1) ∧ Fr n0 L) := by
  refine con_ofH (plainFor_of_name pn_0) (Ls := #[.val (.int a), .val (.int b), .val (.int c0), .val (.int t), .val (.int n), .unset, .unset, .unset, .unset, .unset, .unset, .unset, .unset, .unset, .unset, .unset, .unset, .unset, .unset, .unset, .unset, .unset, .unset]) (fun m => by first | (simp [entryFrame, mkF, argsToLocals, Value.category, maxLocals]; done) | rfl) ?_
  intro p e s m below meth c s₁ hx hH hby hml hret hlk hnm hown hnamed X0 e0
  have hZ := hH.wide
  refine g_iloadN X0 hx (hb hby at_0) (v := a) rfl (q := 1) rfl ?_
  refine g_ldcI X0 hx hZ hown (hw _ (List.mem_of_getElem? (i := 0) rfl)) (hb hby at_1) (q := 3) rfl ?_
  refine g_iand X0 hx (hb hby at_3) (z := (a &&& (2147483647 : Int32))) rfl (q := 4) rfl ?_
  refine g_i2l X0 hx (hb hby at_4) (z := xv) hx1 (q := 5) rfl ?_
  refine g_lstore X0 hx (hb hby at_5) (L' := #[.val (.int a), .val (.int b), .val (.int c0), .val (.int t), .val (.int n), .val (.long xv), .second, .unset, .unset, .unset, .unset, .unset, .unset, .unset, .unset, .unset, .unset, .unset, .unset, .unset, .unset, .unset, .unset]) rfl (q := 7) rfl ?_
  refine g_iloadN X0 hx (hb hby at_7) (v := b) rfl (q := 8) rfl ?_
  refine g_ldcI X0 hx hZ hown (hw _ (List.mem_of_getElem? (i := 0) rfl)) (hb hby at_8) (q := 10) rfl ?_
  refine g_iand X0 hx (hb hby at_10) (z := (b &&& (2147483647 : Int32))) rfl (q := 11) rfl ?_
  refine g_i2l X0 hx (hb hby at_11) (z := yv) hy1 (q := 12) rfl ?_
  refine g_lstore X0 hx (hb hby at_12) (L' := #[.val (.int a), .val (.int b), .val (.int c0), .val (.int t), .val (.int n), .val (.long xv), .second, .val (.long yv), .second, .unset, .unset, .unset, .unset, .unset, .unset, .unset, .unset, .unset, .unset, .unset, .unset, .unset, .unset]) rfl (q := 14) rfl ?_
  refine g_iloadN X0 hx (hb hby at_14) (v := c0) rfl (q := 15) rfl ?_
  refine g_ldcI X0 hx hZ hown (hw _ (List.mem_of_getElem? (i := 0) rfl)) (hb hby at_15) (q := 17) rfl ?_
  refine g_iand X0 hx (hb hby at_17) (z := (c0 &&& (2147483647 : Int32))) rfl (q := 18) rfl ?_
  refine g_i2l X0 hx (hb hby at_18) (z := zv) hz1 (q := 19) rfl ?_
  refine g_lstore X0 hx (hb hby at_19) (L' := #[.val (.int a), .val (.int b), .val (.int c0), .val (.int t), .val (.int n), .val (.long xv), .second, .val (.long yv), .second, .val (.long zv), .second, .unset, .unset, .unset, .unset, .unset, .unset, .unset, .unset, .unset, .unset, .unset, .unset]) rfl (q := 21) rfl ?_
  refine g_lload X0 hx (hb hby at_21) (v := xv) rfl (q := 23) rfl ?_
  refine g_lload X0 hx (hb hby at_23) (v := yv) rfl (q := 25) rfl ?_
  refine g_callS X0 hx hZ hown (hw _ (List.mem_of_getElem? (i := 1) rfl)) (hw _ (List.mem_of_getElem? (i := 2) rfl)) (hw _ (List.mem_of_getElem? (i := 3) rfl)) (hw _ (List.mem_of_getElem? (i := 4) rfl)) (by decide) e0 (rmMinL l Z a0 hw xv yv h0) (by exact hml.symm) (argsL := [(.long xv), (.long yv)]) (rest := []) rfl rfl pd_2 rfl (Nat.le_of_ble_eq_true rfl) (Nat.le_of_ble_eq_true rfl) (Nat.le_of_ble_eq_true rfl) (Nat.le_of_ble_eq_true rfl) (hb hby at_25) (q := 28) rfl (g_pure rfl rfl fun T429 X429 e429 => ?_)
  show Go p e below _ (T429.setTop (mkF m 28 #[.val (.int a), .val (.int b), .val (.int c0), .val (.int t), .val (.int n), .val (.long xv), .second, .val (.long yv), .second, .val (.long zv), .second, .unset, .unset, .unset, .unset, .unset, .unset, .unset, .unset, .unset, .unset, .unset, .unset] [(.long (own_minL xv yv))]))
  refine g_lload X429 hx (hb hby at_28) (v := zv) rfl (q := 30) rfl ?_
  refine g_callS X429 hx hZ hown (hw _ (List.mem_of_getElem? (i := 1) rfl)) (hw _ (List.mem_of_getElem? (i := 2) rfl)) (hw _ (List.mem_of_getElem? (i := 3) rfl)) (hw _ (List.mem_of_getElem? (i := 4) rfl)) (by decide) e429 (rmMinL l Z a0 hw (own_minL xv yv) zv h0) (by exact hml.symm) (argsL := [(.long (own_minL xv yv)), (.long zv)]) (rest := []) rfl rfl pd_2 rfl (Nat.le_of_ble_eq_true rfl) (Nat.le_of_ble_eq_true rfl) (Nat.le_of_ble_eq_true rfl) (Nat.le_of_ble_eq_true rfl) (hb hby at_30) (q := 33) rfl (g_pure rfl rfl fun T430 X430 e430 => ?_)
  show Go p e below _ (T430.setTop (mkF m 33 #[.val (.int a), .val (.int b), .val (.int c0), .val (.int t), .val (.int n), .val (.long xv), .second, .val (.long yv), .second, .val (.long zv), .second, .unset, .unset, .unset, .unset, .unset, .unset, .unset, .unset, .unset, .unset, .unset, .unset] [(.long (own_minL (own_minL xv yv) zv))]))
  refine g_lstore X430 hx (hb hby at_33) (L' := #[.val (.int a), .val (.int b), .val (.int c0), .val (.int t), .val (.int n), .val (.long xv), .second, .val (.long yv), .second, .val (.long zv), .second, .val (.long (own_minL (own_minL xv yv) zv)), .second, .unset, .unset, .unset, .unset, .unset, .unset, .unset, .unset, .unset, .unset]) rfl (q := 35) rfl ?_
  refine g_lload X430 hx (hb hby at_35) (v := xv) rfl (q := 37) rfl ?_
  refine g_lload X430 hx (hb hby at_37) (v := yv) rfl (q := 39) rfl ?_
  refine g_callS X430 hx hZ hown (hw _ (List.mem_of_getElem? (i := 5) rfl)) (hw _ (List.mem_of_getElem? (i := 6) rfl)) (hw _ (List.mem_of_getElem? (i := 3) rfl)) (hw _ (List.mem_of_getElem? (i := 7) rfl)) (by decide) e430 (rmMaxL l Z a0 hw xv yv h0) (by exact hml.symm) (argsL := [(.long xv), (.long yv)]) (rest := []) rfl rfl pd_2 rfl (Nat.le_of_ble_eq_true rfl) (Nat.le_of_ble_eq_true rfl) (Nat.le_of_ble_eq_true rfl) (Nat.le_of_ble_eq_true rfl) (hb hby at_39) (q := 42) rfl (g_pure rfl rfl fun T431 X431 e431 => ?_)
  show Go p e below _ (T431.setTop (mkF m 42 #[.val (.int a), .val (.int b), .val (.int c0), .val (.int t), .val (.int n), .val (.long xv), .second, .val (.long yv), .second, .val (.long zv), .second, .val (.long (own_minL (own_minL xv yv) zv)), .second, .unset, .unset, .unset, .unset, .unset, .unset, .unset, .unset, .unset, .unset] [(.long (own_maxL xv yv))]))
  refine g_lload X431 hx (hb hby at_42) (v := zv) rfl (q := 44) rfl ?_
  refine g_callS X431 hx hZ hown (hw _ (List.mem_of_getElem? (i := 5) rfl)) (hw _ (List.mem_of_getElem? (i := 6) rfl)) (hw _ (List.mem_of_getElem? (i := 3) rfl)) (hw _ (List.mem_of_getElem? (i := 7) rfl)) (by decide) e431 (rmMaxL l Z a0 hw (own_maxL xv yv) zv h0) (by exact hml.symm) (argsL := [(.long (own_maxL xv yv)), (.long zv)]) (rest := []) rfl rfl pd_2 rfl (Nat.le_of_ble_eq_true rfl) (Nat.le_of_ble_eq_true rfl) (Nat.le_of_ble_eq_true rfl) (Nat.le_of_ble_eq_true rfl) (hb hby at_44) (q := 47) rfl (g_pure rfl rfl fun T432 X432 e432 => ?_)
  show Go p e below _ (T432.setTop (mkF m 47 #[.val (.int a), .val (.int b), .val (.int c0), .val (.int t), .val (.int n), .val (.long xv), .second, .val (.long yv), .second, .val (.long zv), .second, .val (.long (own_minL (own_minL xv yv) zv)), .second, .unset, .unset, .unset, .unset, .unset, .unset, .unset, .unset, .unset, .unset] [(.long (own_maxL (own_maxL xv yv) zv))]))
  refine g_lstore X432 hx (hb hby at_47) (L' := #[.val (.int a), .val (.int b), .val (.int c0), .val (.int t), .val (.int n), .val (.long xv), .second, .val (.long yv), .second, .val (.long zv), .second, .val (.long (own_minL (own_minL xv yv) zv)), .second, .val (.long (own_maxL (own_maxL xv yv) zv)), .second, .unset, .unset, .unset, .unset, .unset, .unset, .unset, .unset]) rfl (q := 49) rfl ?_
  refine g_lload X432 hx (hb hby at_49) (v := xv) rfl (q := 51) rfl ?_
  refine g_lload X432 hx (hb hby at_51) (v := yv) rfl (q := 53) rfl ?_
  refine g_ladd X432 hx (hb hby at_53) (z := (xv + yv)) rfl (q := 54) rfl ?_
  refine g_lload X432 hx (hb hby at_54) (v := zv) rfl (q := 56) rfl ?_
  refine g_ladd X432 hx (hb hby at_56) (z := ((xv + yv) + zv)) rfl (q := 57) rfl ?_
  refine g_lload X432 hx (hb hby at_57) (v := (own_minL (own_minL xv yv) zv)) rfl (q := 59) rfl ?_
  refine g_lsub X432 hx (hb hby at_59) (z := (((xv + yv) + zv) - (own_minL (own_minL xv yv) zv))) rfl (q := 60) rfl ?_
  refine g_lload X432 hx (hb hby at_60) (v := (own_maxL (own_maxL xv yv) zv)) rfl (q := 62) rfl ?_
  refine g_lsub X432 hx (hb hby at_62) (z := ((((xv + yv) + zv) - (own_minL (own_minL xv yv) zv)) - (own_maxL (own_maxL xv yv) zv))) rfl (q := 63) rfl ?_
  refine g_lstore X432 hx (hb hby at_63) (L' := #[.val (.int a), .val (.int b), .val (.int c0), .val (.int t), .val (.int n), .val (.long xv), .second, .val (.long yv), .second, .val (.long zv), .second, .val (.long (own_minL (own_minL xv yv) zv)), .second, .val (.long (own_maxL (own_maxL xv yv) zv)), .second, .val (.long ((((xv + yv) + zv) - (own_minL (own_minL xv yv) zv)) - (own_maxL (own_maxL xv yv) zv))), .second, .unset, .unset, .unset, .unset, .unset, .unset]) rfl (q := 65) rfl ?_
  refine g_lload X432 hx (hb hby at_65) (v := (own_minL (own_minL xv yv) zv)) rfl (q := 67) rfl ?_
  refine g_l2i X432 hx (hb hby at_67) (z := p0) hp0 (q := 68) rfl ?_
  refine g_istore X432 hx (hb hby at_68) (L' := #[.val (.int a), .val (.int b), .val (.int c0), .val (.int t), .val (.int n), .val (.long xv), .second, .val (.long yv), .second, .val (.long zv), .second, .val (.long (own_minL (own_minL xv yv) zv)), .second, .val (.long (own_maxL (own_maxL xv yv) zv)), .second, .val (.long ((((xv + yv) + zv) - (own_minL (own_minL xv yv) zv)) - (own_maxL (own_maxL xv yv) zv))), .second, .val (.int p0), .unset, .unset, .unset, .unset, .unset]) rfl (q := 70) rfl ?_
  refine g_lload X432 hx (hb hby at_70) (v := ((((xv + yv) + zv) - (own_minL (own_minL xv yv) zv)) - (own_maxL (own_maxL xv yv) zv))) rfl (q := 72) rfl ?_
  refine g_l2i X432 hx (hb hby at_72) (z := p1) hp1 (q := 73) rfl ?_
  refine g_istore X432 hx (hb hby at_73) (L' := #[.val (.int a), .val (.int b), .val (.int c0), .val (.int t), .val (.int n), .val (.long xv), .second, .val (.long yv), .second, .val (.long zv), .second, .val (.long (own_minL (own_minL xv yv) zv)), .second, .val (.long (own_maxL (own_maxL xv yv) zv)), .second, .val (.long ((((xv + yv) + zv) - (own_minL (own_minL xv yv) zv)) - (own_maxL (own_maxL xv yv) zv))), .second, .val (.int p0), .val (.int p1), .unset, .unset, .unset, .unset]) rfl (q := 75) rfl ?_
  refine g_lload X432 hx (hb hby at_75) (v := (own_maxL (own_maxL xv yv) zv)) rfl (q := 77) rfl ?_
  refine g_l2i X432 hx (hb hby at_77) (z := p2) hp2 (q := 78) rfl ?_
  refine g_istore X432 hx (hb hby at_78) (L' := #[.val (.int a), .val (.int b), .val (.int c0), .val (.int t), .val (.int n), .val (.long xv), .second, .val (.long yv), .second, .val (.long zv), .second, .val (.long (own_minL (own_minL xv yv) zv)), .second, .val (.long (own_maxL (own_maxL xv yv) zv)), .second, .val (.long ((((xv + yv) + zv) - (own_minL (own_minL xv yv) zv)) - (own_maxL (own_maxL xv yv) zv))), .second, .val (.int p0), .val (.int p1), .val (.int p2), .unset, .unset, .unset]) rfl (q := 80) rfl ?_
  refine g_iload X432 hx (hb hby at_80) (v := n) rfl (q := 82) rfl ?_
  refine g_iconst X432 hx (hb hby at_82) (n := (3 : Int32)) (by decide) (q := 83) rfl ?_
  refine g_iand X432 hx (hb hby at_83) (z := (3 : Int32)) hk (q := 84) rfl ?_
  refine g_istore X432 hx (hb hby at_84) (L' := #[.val (.int a), .val (.int b), .val (.int c0), .val (.int t), .val (.int n), .val (.long xv), .second, .val (.long yv), .second, .val (.long zv), .second, .val (.long (own_minL (own_minL xv yv) zv)), .second, .val (.long (own_maxL (own_maxL xv yv) zv)), .second, .val (.long ((((xv + yv) + zv) - (own_minL (own_minL xv yv) zv)) - (own_maxL (own_maxL xv yv) zv))), .second, .val (.int p0), .val (.int p1), .val (.int p2), .val (.int (3 : Int32)), .unset, .unset]) rfl (q := 86) rfl ?_
  refine g_new X432 hx hZ hown (hw _ (List.mem_of_getElem? (i := 8) rfl)) (hw _ (List.mem_of_getElem? (i := 9) rfl)) (hw _ (List.mem_of_getElem? (i := 10) rfl)) e432 (hb hby at_86) (Nat.le_of_ble_eq_true rfl) (Nat.le_of_ble_eq_true rfl) (q := 89) rfl fun T433 h433 bi g433 X433 e433 E433 A433 D433 => ?_
  have ge_bi : n0 ≤ bi := Nat.le_trans Z0 (Nat.le_of_eq g433.symm)
  have z_433 := Nat.le_trans Z0 E433.1
  have F433_entries : Fld Z h433 bi "com/example/newlyn/newlyn/storage/SegmentIndex" "entries" "[J" .null := D433 (Or.inl (hw _ (List.mem_of_getElem? (i := 19) rfl))) (ty := (.array .long)) (by decide)
  have F433_count : Fld Z h433 bi "com/example/newlyn/newlyn/storage/SegmentIndex" "count" "I" (.int (0 : Int32)) := D433 (Or.inl (hw _ (List.mem_of_getElem? (i := 26) rfl))) (ty := .int) (by decide)
  refine g_dup X433 hx (hb hby at_89) rfl (q := 90) rfl ?_
  refine g_callI X433 hx hZ hown rfl (hw _ (List.mem_of_getElem? (i := 11) rfl)) (hw _ (List.mem_of_getElem? (i := 12) rfl)) (hw _ (List.mem_of_getElem? (i := 13) rfl)) (hw _ (List.mem_of_getElem? (i := 10) rfl)) (by decide) e433 (b := bi) (rmC l Z a0 hw bi h433 n0 z_433 ge_bi A433 F433_entries F433_count) (by exact hml.symm) (argsL := []) (rest := [(.ref bi)]) rfl rfl pd_3 rfl (Nat.le_of_ble_eq_true rfl) (Nat.le_of_ble_eq_true rfl) (Nat.le_of_ble_eq_true rfl) (Nat.le_of_ble_eq_true rfl) (hb hby at_90) (q := 93) rfl (fun v434 T434 L434 X434 hQ434 => ?_)
  generalize e434 : T434.heap = h434 at hQ434
  obtain ⟨rfl, M434, K434, A434, ae, g434, B434, C434, V434⟩ := hQ434
  have N434 := Fr.app (Fr.nil n0) M434
  have ne_bi_ae : bi ≠ ae := Nat.ne_of_lt (Nat.lt_of_lt_of_le A433.lt g434)
  have ge_ae : n0 ≤ ae := Nat.le_trans z_433 g434
  have Z434 : n0 ≤ h434.size := Nat.le_trans z_433 K434.1
  show Go p e below _ (T434.setTop (mkF m 93 #[.val (.int a), .val (.int b), .val (.int c0), .val (.int t), .val (.int n), .val (.long xv), .second, .val (.long yv), .second, .val (.long zv), .second, .val (.long (own_minL (own_minL xv yv) zv)), .second, .val (.long (own_maxL (own_maxL xv yv) zv)), .second, .val (.long ((((xv + yv) + zv) - (own_minL (own_minL xv yv) zv)) - (own_maxL (own_maxL xv yv) zv))), .second, .val (.int p0), .val (.int p1), .val (.int p2), .val (.int (3 : Int32)), .unset, .unset] [(.ref bi)]))
  refine g_astore X434 hx (hb hby at_93) rfl (L' := #[.val (.int a), .val (.int b), .val (.int c0), .val (.int t), .val (.int n), .val (.long xv), .second, .val (.long yv), .second, .val (.long zv), .second, .val (.long (own_minL (own_minL xv yv) zv)), .second, .val (.long (own_maxL (own_maxL xv yv) zv)), .second, .val (.long ((((xv + yv) + zv) - (own_minL (own_minL xv yv) zv)) - (own_maxL (own_maxL xv yv) zv))), .second, .val (.int p0), .val (.int p1), .val (.int p2), .val (.int (3 : Int32)), .val (.ref bi), .unset]) rfl (q := 95) rfl ?_
  refine g_iload X434 hx (hb hby at_95) (v := (3 : Int32)) rfl (q := 97) rfl ?_
  refine g_if_le X434 hx (hb hby at_97) (by decide) (q := 109) (by decide) (q2 := 100) rfl (fun hb97 => absurd hb97 (by decide)) (fun hb97 => ?_)
  refine g_aload X434 hx (hb hby at_100) (v := (.ref bi)) rfl rfl (q := 102) rfl ?_
  refine g_iconst X434 hx (hb hby at_102) (n := (0 : Int32)) (by decide) (q := 103) rfl ?_
  refine g_iload X434 hx (hb hby at_103) (v := p0) rfl (q := 105) rfl ?_
  refine g_lconst X434 hx (hb hby at_105) (n := (0 : Int64)) (by decide) (q := 106) rfl ?_
  refine g_callV X434 hx hZ hown (hw _ (List.mem_of_getElem? (i := 48) rfl)) (hw _ (List.mem_of_getElem? (i := 49) rfl)) (hw _ (List.mem_of_getElem? (i := 51) rfl)) (hw _ (List.mem_of_getElem? (i := 50) rfl)) (hw _ (List.mem_of_getElem? (i := 52) rfl)) (hw _ (List.mem_of_getElem? (i := 10) rfl)) (notFace_of_selects (args := #[]) (mvT hZ (hw _ (List.mem_of_getElem? (i := 51) rfl)))) (by decide) e434 A434 (rmA l Z a0 hw bi ae (0 : Int32) p0 (0 : Int64) (0 : Int32) (1 : Int32) (2 : Int32) (0 : Int32) (1 : Int32) (by decide) (by decide) (by decide) (by decide) (by decide) (fun _ => .long (0 : Int64)) h434 n0 (by decide) (by decide) (by decide) (by decide) ge_bi ge_ae ne_bi_ae A434 B434 C434 V434) (by exact hml.symm) (argsL := [(.int (0 : Int32)), (.int p0), (.long (0 : Int64))]) (rest := []) rfl rfl pd_7 rfl (Nat.le_of_ble_eq_true rfl) (Nat.le_of_ble_eq_true rfl) (Nat.le_of_ble_eq_true rfl) (Nat.le_of_ble_eq_true rfl) (hb hby at_106) (q := 109) rfl (fun v435 T435 L435 X435 hQ435 => ?_)
  generalize e435 : T435.heap = h435 at hQ435
  obtain ⟨rfl, M435, K435, A435, B435, C435, V435⟩ := hQ435
  have N435 := Fr.app N434 M435
  have Z435 : n0 ≤ h435.size := Nat.le_trans Z434 K435.1
  show Go p e below _ (T435.setTop (mkF m 109 #[.val (.int a), .val (.int b), .val (.int c0), .val (.int t), .val (.int n), .val (.long xv), .second, .val (.long yv), .second, .val (.long zv), .second, .val (.long (own_minL (own_minL xv yv) zv)), .second, .val (.long (own_maxL (own_maxL xv yv) zv)), .second, .val (.long ((((xv + yv) + zv) - (own_minL (own_minL xv yv) zv)) - (own_maxL (own_maxL xv yv) zv))), .second, .val (.int p0), .val (.int p1), .val (.int p2), .val (.int (3 : Int32)), .val (.ref bi), .unset] []))
  refine g_iload X435 hx (hb hby at_109) (v := (3 : Int32)) rfl (q := 111) rfl ?_
  refine g_iconst X435 hx (hb hby at_111) (n := (1 : Int32)) (by decide) (q := 112) rfl ?_
  refine g_icmp_le X435 hx (hb hby at_112) (by decide) (q := 124) (by decide) (q2 := 115) rfl (fun hb112 => absurd hb112 (by decide)) (fun hb112 => ?_)
  refine g_aload X435 hx (hb hby at_115) (v := (.ref bi)) rfl rfl (q := 117) rfl ?_
  refine g_iconst X435 hx (hb hby at_117) (n := (1 : Int32)) (by decide) (q := 118) rfl ?_
  refine g_iload X435 hx (hb hby at_118) (v := p1) rfl (q := 120) rfl ?_
  refine g_lconst X435 hx (hb hby at_120) (n := (1 : Int64)) (by decide) (q := 121) rfl ?_
  refine g_callV X435 hx hZ hown (hw _ (List.mem_of_getElem? (i := 48) rfl)) (hw _ (List.mem_of_getElem? (i := 49) rfl)) (hw _ (List.mem_of_getElem? (i := 51) rfl)) (hw _ (List.mem_of_getElem? (i := 50) rfl)) (hw _ (List.mem_of_getElem? (i := 52) rfl)) (hw _ (List.mem_of_getElem? (i := 10) rfl)) (notFace_of_selects (args := #[]) (mvT hZ (hw _ (List.mem_of_getElem? (i := 51) rfl)))) (by decide) e435 A435 (rmA l Z a0 hw bi ae (1 : Int32) p1 (1 : Int64) (1 : Int32) (2 : Int32) (4 : Int32) (2 : Int32) (3 : Int32) (by decide) (by decide) (by decide) (by decide) (by decide) (fun i => if i = (1 : Int32).toNatClampNeg then .long (0 : Int64) else if i = (0 : Int32).toNatClampNeg then .long (own_entry (0 : Int32) p0) else (fun _ => .long (0 : Int64)) i) h435 n0 (by decide) (by decide) (by decide) (by decide) ge_bi ge_ae ne_bi_ae A435 B435 C435 V435) (by exact hml.symm) (argsL := [(.int (1 : Int32)), (.int p1), (.long (1 : Int64))]) (rest := []) rfl rfl pd_7 rfl (Nat.le_of_ble_eq_true rfl) (Nat.le_of_ble_eq_true rfl) (Nat.le_of_ble_eq_true rfl) (Nat.le_of_ble_eq_true rfl) (hb hby at_121) (q := 124) rfl (fun v436 T436 L436 X436 hQ436 => ?_)
  generalize e436 : T436.heap = h436 at hQ436
  obtain ⟨rfl, M436, K436, A436, B436, C436, V436⟩ := hQ436
  have N436 := Fr.app N435 M436
  have Z436 : n0 ≤ h436.size := Nat.le_trans Z435 K436.1
  show Go p e below _ (T436.setTop (mkF m 124 #[.val (.int a), .val (.int b), .val (.int c0), .val (.int t), .val (.int n), .val (.long xv), .second, .val (.long yv), .second, .val (.long zv), .second, .val (.long (own_minL (own_minL xv yv) zv)), .second, .val (.long (own_maxL (own_maxL xv yv) zv)), .second, .val (.long ((((xv + yv) + zv) - (own_minL (own_minL xv yv) zv)) - (own_maxL (own_maxL xv yv) zv))), .second, .val (.int p0), .val (.int p1), .val (.int p2), .val (.int (3 : Int32)), .val (.ref bi), .unset] []))
  refine g_iload X436 hx (hb hby at_124) (v := (3 : Int32)) rfl (q := 126) rfl ?_
  refine g_iconst X436 hx (hb hby at_126) (n := (2 : Int32)) (by decide) (q := 127) rfl ?_
  refine g_icmp_le X436 hx (hb hby at_127) (by decide) (q := 141) (by decide) (q2 := 130) rfl (fun hb127 => absurd hb127 (by decide)) (fun hb127 => ?_)
  refine g_aload X436 hx (hb hby at_130) (v := (.ref bi)) rfl rfl (q := 132) rfl ?_
  refine g_iconst X436 hx (hb hby at_132) (n := (2 : Int32)) (by decide) (q := 133) rfl ?_
  refine g_iload X436 hx (hb hby at_133) (v := p2) rfl (q := 135) rfl ?_
  refine g_ldcJ X436 hx hZ hown (hw _ (List.mem_of_getElem? (i := 47) rfl)) (hb hby at_135) (q := 138) rfl ?_
  refine g_callV X436 hx hZ hown (hw _ (List.mem_of_getElem? (i := 48) rfl)) (hw _ (List.mem_of_getElem? (i := 49) rfl)) (hw _ (List.mem_of_getElem? (i := 51) rfl)) (hw _ (List.mem_of_getElem? (i := 50) rfl)) (hw _ (List.mem_of_getElem? (i := 52) rfl)) (hw _ (List.mem_of_getElem? (i := 10) rfl)) (notFace_of_selects (args := #[]) (mvT hZ (hw _ (List.mem_of_getElem? (i := 51) rfl)))) (by decide) e436 A436 (rmA l Z a0 hw bi ae (2 : Int32) p2 (2 : Int64) (2 : Int32) (3 : Int32) (6 : Int32) (4 : Int32) (5 : Int32) (by decide) (by decide) (by decide) (by decide) (by decide) (fun i => if i = (3 : Int32).toNatClampNeg then .long (1 : Int64) else if i = (2 : Int32).toNatClampNeg then .long (own_entry (1 : Int32) p1) else (fun i => if i = (1 : Int32).toNatClampNeg then .long (0 : Int64) else if i = (0 : Int32).toNatClampNeg then .long (own_entry (0 : Int32) p0) else (fun _ => .long (0 : Int64)) i) i) h436 n0 (by decide) (by decide) (by decide) (by decide) ge_bi ge_ae ne_bi_ae A436 B436 C436 V436) (by exact hml.symm) (argsL := [(.int (2 : Int32)), (.int p2), (.long (2 : Int64))]) (rest := []) rfl rfl pd_7 rfl (Nat.le_of_ble_eq_true rfl) (Nat.le_of_ble_eq_true rfl) (Nat.le_of_ble_eq_true rfl) (Nat.le_of_ble_eq_true rfl) (hb hby at_138) (q := 141) rfl (fun v437 T437 L437 X437 hQ437 => ?_)
  generalize e437 : T437.heap = h437 at hQ437
  obtain ⟨rfl, M437, K437, A437, B437, C437, V437⟩ := hQ437
  have N437 := Fr.app N436 M437
  have Z437 : n0 ≤ h437.size := Nat.le_trans Z436 K437.1
  show Go p e below _ (T437.setTop (mkF m 141 #[.val (.int a), .val (.int b), .val (.int c0), .val (.int t), .val (.int n), .val (.long xv), .second, .val (.long yv), .second, .val (.long zv), .second, .val (.long (own_minL (own_minL xv yv) zv)), .second, .val (.long (own_maxL (own_maxL xv yv) zv)), .second, .val (.long ((((xv + yv) + zv) - (own_minL (own_minL xv yv) zv)) - (own_maxL (own_maxL xv yv) zv))), .second, .val (.int p0), .val (.int p1), .val (.int p2), .val (.int (3 : Int32)), .val (.ref bi), .unset] []))
  refine g_aload X437 hx (hb hby at_141) (v := (.ref bi)) rfl rfl (q := 143) rfl ?_
  refine g_iloadN X437 hx (hb hby at_143) (v := t) rfl (q := 144) rfl ?_
  have q0 : ((fun i => if i = (5 : Int32).toNatClampNeg then .long (2 : Int64) else if i = (4 : Int32).toNatClampNeg then .long (own_entry (2 : Int32) p2) else (fun i => if i = (3 : Int32).toNatClampNeg then .long (1 : Int64) else if i = (2 : Int32).toNatClampNeg then .long (own_entry (1 : Int32) p1) else (fun i => if i = (1 : Int32).toNatClampNeg then .long (0 : Int64) else if i = (0 : Int32).toNatClampNeg then .long (own_entry (0 : Int32) p0) else (fun _ => .long (0 : Int64)) i) i) i) : Nat → Value) (0 : Int32).toNatClampNeg = .long (own_entry (0 : Int32) p0) := by rfl
  have r0 := own_entry_pos (0 : Int32) p0 (by decide) g0
  have o0 : own_off (own_entry (0 : Int32) p0) = (0 : Int64) := (own_entry_off (0 : Int32) p0 (by decide) g0).trans (by decide)
  have q1 : ((fun i => if i = (5 : Int32).toNatClampNeg then .long (2 : Int64) else if i = (4 : Int32).toNatClampNeg then .long (own_entry (2 : Int32) p2) else (fun i => if i = (3 : Int32).toNatClampNeg then .long (1 : Int64) else if i = (2 : Int32).toNatClampNeg then .long (own_entry (1 : Int32) p1) else (fun i => if i = (1 : Int32).toNatClampNeg then .long (0 : Int64) else if i = (0 : Int32).toNatClampNeg then .long (own_entry (0 : Int32) p0) else (fun _ => .long (0 : Int64)) i) i) i) : Nat → Value) (2 : Int32).toNatClampNeg = .long (own_entry (1 : Int32) p1) := by rfl
  have r1 := own_entry_pos (1 : Int32) p1 (by decide) g1
  have o1 : own_off (own_entry (1 : Int32) p1) = (1 : Int64) := (own_entry_off (1 : Int32) p1 (by decide) g1).trans (by decide)
  have q2 : ((fun i => if i = (5 : Int32).toNatClampNeg then .long (2 : Int64) else if i = (4 : Int32).toNatClampNeg then .long (own_entry (2 : Int32) p2) else (fun i => if i = (3 : Int32).toNatClampNeg then .long (1 : Int64) else if i = (2 : Int32).toNatClampNeg then .long (own_entry (1 : Int32) p1) else (fun i => if i = (1 : Int32).toNatClampNeg then .long (0 : Int64) else if i = (0 : Int32).toNatClampNeg then .long (own_entry (0 : Int32) p0) else (fun _ => .long (0 : Int64)) i) i) i) : Nat → Value) (4 : Int32).toNatClampNeg = .long (own_entry (2 : Int32) p2) := by rfl
  have r2 := own_entry_pos (2 : Int32) p2 (by decide) g2
  have o2 : own_off (own_entry (2 : Int32) p2) = (2 : Int64) := (own_entry_off (2 : Int32) p2 (by decide) g2).trans (by decide)
  refine g_callV X437 hx hZ hown (hw _ (List.mem_of_getElem? (i := 20) rfl)) (hw _ (List.mem_of_getElem? (i := 21) rfl)) (hw _ (List.mem_of_getElem? (i := 23) rfl)) (hw _ (List.mem_of_getElem? (i := 22) rfl)) (hw _ (List.mem_of_getElem? (i := 24) rfl)) (hw _ (List.mem_of_getElem? (i := 10) rfl)) (notFace_of_selects (args := #[]) (mvT hZ (hw _ (List.mem_of_getElem? (i := 23) rfl)))) (by decide) e437 A437 (rmT3 l Z a0 hw bi ae t p0 p1 p2 (own_entry (0 : Int32) p0) (own_entry (1 : Int32) p1) (own_entry (2 : Int32) p2) (fun i => if i = (5 : Int32).toNatClampNeg then .long (2 : Int64) else if i = (4 : Int32).toNatClampNeg then .long (own_entry (2 : Int32) p2) else (fun i => if i = (3 : Int32).toNatClampNeg then .long (1 : Int64) else if i = (2 : Int32).toNatClampNeg then .long (own_entry (1 : Int32) p1) else (fun i => if i = (1 : Int32).toNatClampNeg then .long (0 : Int64) else if i = (0 : Int32).toNatClampNeg then .long (own_entry (0 : Int32) p0) else (fun _ => .long (0 : Int64)) i) i) i) h437 n0 ge_bi ne_bi_ae A437 B437 C437 V437 q0 r0 q1 r1 q2 r2) (by exact hml.symm) (argsL := [(.int t)]) (rest := []) rfl rfl pd_4 rfl (Nat.le_of_ble_eq_true rfl) (Nat.le_of_ble_eq_true rfl) (Nat.le_of_ble_eq_true rfl) (Nat.le_of_ble_eq_true rfl) (hb hby at_144) (q := 147) rfl (fun v438 T438 L438 X438 hQ438 => ?_)
  generalize e438 : T438.heap = h438 at hQ438
  obtain ⟨rfl, M438, K438, A438, B438, C438⟩ := hQ438
  have N438 := Fr.app N437 M438
  have Z438 : n0 ≤ h438.size := Nat.le_trans Z437 K438.1
  have V438 := V437.keep K438 (ninS (Ne.symm ne_bi_ae) nin0)
  rw [show own_tr3 t p0 p1 p2 = (3 : Int32) from by rw [own_tr3, if_pos lt2]] at C438
  show Go p e below _ (T438.setTop (mkF m 147 #[.val (.int a), .val (.int b), .val (.int c0), .val (.int t), .val (.int n), .val (.long xv), .second, .val (.long yv), .second, .val (.long zv), .second, .val (.long (own_minL (own_minL xv yv) zv)), .second, .val (.long (own_maxL (own_maxL xv yv) zv)), .second, .val (.long ((((xv + yv) + zv) - (own_minL (own_minL xv yv) zv)) - (own_maxL (own_maxL xv yv) zv))), .second, .val (.int p0), .val (.int p1), .val (.int p2), .val (.int (3 : Int32)), .val (.ref bi), .unset] []))
  refine g_iconst X438 hx (hb hby at_147) (n := (0 : Int32)) (by decide) (q := 148) rfl ?_
  refine g_istore X438 hx (hb hby at_148) (L' := #[.val (.int a), .val (.int b), .val (.int c0), .val (.int t), .val (.int n), .val (.long xv), .second, .val (.long yv), .second, .val (.long zv), .second, .val (.long (own_minL (own_minL xv yv) zv)), .second, .val (.long (own_maxL (own_maxL xv yv) zv)), .second, .val (.long ((((xv + yv) + zv) - (own_minL (own_minL xv yv) zv)) - (own_maxL (own_maxL xv yv) zv))), .second, .val (.int p0), .val (.int p1), .val (.int p2), .val (.int (3 : Int32)), .val (.ref bi), .val (.int (0 : Int32))]) rfl (q := 150) rfl ?_
  refine g_iload X438 hx (hb hby at_150) (v := (3 : Int32)) rfl (q := 152) rfl ?_
  refine g_if_le X438 hx (hb hby at_152) (by decide) (q := 164) (by decide) (q2 := 155) rfl (fun hb152 => absurd hb152 (by decide)) (fun hb152 => ?_)
  refine g_iload X438 hx (hb hby at_155) (v := p0) rfl (q := 157) rfl ?_
  refine g_iloadN X438 hx (hb hby at_157) (v := t) rfl (q := 158) rfl ?_
  refine g_icmp_ge X438 hx (hb hby at_158) (by decide) (q := 164) (by decide) (q2 := 161) rfl (fun hb158 => absurd hb158 (not_not_intro lt0)) (fun hb158 => ?_)
  refine g_iconst X438 hx (hb hby at_161) (n := (1 : Int32)) (by decide) (q := 162) rfl ?_
  refine g_istore X438 hx (hb hby at_162) (L' := #[.val (.int a), .val (.int b), .val (.int c0), .val (.int t), .val (.int n), .val (.long xv), .second, .val (.long yv), .second, .val (.long zv), .second, .val (.long (own_minL (own_minL xv yv) zv)), .second, .val (.long (own_maxL (own_maxL xv yv) zv)), .second, .val (.long ((((xv + yv) + zv) - (own_minL (own_minL xv yv) zv)) - (own_maxL (own_maxL xv yv) zv))), .second, .val (.int p0), .val (.int p1), .val (.int p2), .val (.int (3 : Int32)), .val (.ref bi), .val (.int (1 : Int32))]) rfl (q := 164) rfl ?_
  refine g_iload X438 hx (hb hby at_164) (v := (1 : Int32)) rfl (q := 166) rfl ?_
  refine g_iconst X438 hx (hb hby at_166) (n := (1 : Int32)) (by decide) (q := 167) rfl ?_
  refine g_icmp_ne X438 hx (hb hby at_167) (by decide) (q := 185) (by decide) (q2 := 170) rfl (fun hb167 => absurd hb167 (by decide)) (fun hb167 => ?_)
  refine g_iload X438 hx (hb hby at_170) (v := (3 : Int32)) rfl (q := 172) rfl ?_
  refine g_iconst X438 hx (hb hby at_172) (n := (1 : Int32)) (by decide) (q := 173) rfl ?_
  refine g_icmp_le X438 hx (hb hby at_173) (by decide) (q := 185) (by decide) (q2 := 176) rfl (fun hb173 => absurd hb173 (by decide)) (fun hb173 => ?_)
  refine g_iload X438 hx (hb hby at_176) (v := p1) rfl (q := 178) rfl ?_
  refine g_iloadN X438 hx (hb hby at_178) (v := t) rfl (q := 179) rfl ?_
  refine g_icmp_ge X438 hx (hb hby at_179) (by decide) (q := 185) (by decide) (q2 := 182) rfl (fun hb179 => absurd hb179 (not_not_intro lt1)) (fun hb179 => ?_)
  refine g_iconst X438 hx (hb hby at_182) (n := (2 : Int32)) (by decide) (q := 183) rfl ?_
  refine g_istore X438 hx (hb hby at_183) (L' := #[.val (.int a), .val (.int b), .val (.int c0), .val (.int t), .val (.int n), .val (.long xv), .second, .val (.long yv), .second, .val (.long zv), .second, .val (.long (own_minL (own_minL xv yv) zv)), .second, .val (.long (own_maxL (own_maxL xv yv) zv)), .second, .val (.long ((((xv + yv) + zv) - (own_minL (own_minL xv yv) zv)) - (own_maxL (own_maxL xv yv) zv))), .second, .val (.int p0), .val (.int p1), .val (.int p2), .val (.int (3 : Int32)), .val (.ref bi), .val (.int (2 : Int32))]) rfl (q := 185) rfl ?_
  refine g_iload X438 hx (hb hby at_185) (v := (2 : Int32)) rfl (q := 187) rfl ?_
  refine g_iconst X438 hx (hb hby at_187) (n := (2 : Int32)) (by decide) (q := 188) rfl ?_
  refine g_icmp_ne X438 hx (hb hby at_188) (by decide) (q := 206) (by decide) (q2 := 191) rfl (fun hb188 => absurd hb188 (by decide)) (fun hb188 => ?_)
  refine g_iload X438 hx (hb hby at_191) (v := (3 : Int32)) rfl (q := 193) rfl ?_
  refine g_iconst X438 hx (hb hby at_193) (n := (2 : Int32)) (by decide) (q := 194) rfl ?_
  refine g_icmp_le X438 hx (hb hby at_194) (by decide) (q := 206) (by decide) (q2 := 197) rfl (fun hb194 => absurd hb194 (by decide)) (fun hb194 => ?_)
  refine g_iload X438 hx (hb hby at_197) (v := p2) rfl (q := 199) rfl ?_
  refine g_iloadN X438 hx (hb hby at_199) (v := t) rfl (q := 200) rfl ?_
  refine g_icmp_ge X438 hx (hb hby at_200) (by decide) (q := 206) (by decide) (q2 := 203) rfl (fun hb200 => absurd hb200 (not_not_intro lt2)) (fun hb200 => ?_)
  refine g_iconst X438 hx (hb hby at_203) (n := (3 : Int32)) (by decide) (q := 204) rfl ?_
  refine g_istore X438 hx (hb hby at_204) (L' := #[.val (.int a), .val (.int b), .val (.int c0), .val (.int t), .val (.int n), .val (.long xv), .second, .val (.long yv), .second, .val (.long zv), .second, .val (.long (own_minL (own_minL xv yv) zv)), .second, .val (.long (own_maxL (own_maxL xv yv) zv)), .second, .val (.long ((((xv + yv) + zv) - (own_minL (own_minL xv yv) zv)) - (own_maxL (own_maxL xv yv) zv))), .second, .val (.int p0), .val (.int p1), .val (.int p2), .val (.int (3 : Int32)), .val (.ref bi), .val (.int (3 : Int32))]) rfl (q := 206) rfl ?_
  refine g_aload X438 hx (hb hby at_206) (v := (.ref bi)) rfl rfl (q := 208) rfl ?_
  refine g_lconst X438 hx (hb hby at_208) (n := (0 : Int64)) (by decide) (q := 209) rfl ?_
  refine g_callVH X438 hx hH hown (hw _ (List.mem_of_getElem? (i := 27) rfl)) (hw _ (List.mem_of_getElem? (i := 28) rfl)) (hw _ (List.mem_of_getElem? (i := 30) rfl)) (hw _ (List.mem_of_getElem? (i := 29) rfl)) (hw _ (List.mem_of_getElem? (i := 31) rfl)) (hw _ (List.mem_of_getElem? (i := 10) rfl)) (notFace_of_selects (args := #[]) (mvT hZ (hw _ (List.mem_of_getElem? (i := 30) rfl)))) (by decide) e438 A438 (rmF30 l Z a0 hw bi ae (own_entry (0 : Int32) p0) p0 (own_entry (1 : Int32) p1) p1 (own_entry (2 : Int32) p2) p2 (fun i => if i = (5 : Int32).toNatClampNeg then .long (2 : Int64) else if i = (4 : Int32).toNatClampNeg then .long (own_entry (2 : Int32) p2) else (fun i => if i = (3 : Int32).toNatClampNeg then .long (1 : Int64) else if i = (2 : Int32).toNatClampNeg then .long (own_entry (1 : Int32) p1) else (fun i => if i = (1 : Int32).toNatClampNeg then .long (0 : Int64) else if i = (0 : Int32).toNatClampNeg then .long (own_entry (0 : Int32) p0) else (fun _ => .long (0 : Int64)) i) i) i) h438 A438 B438 C438 V438 q0 r0 o0 q1 r1 o1 q2 r2 o2) (by exact hml.symm) (argsL := [(.long (0 : Int64))]) (rest := []) rfl rfl pd_5 rfl (Nat.le_of_ble_eq_true rfl) (Nat.le_of_ble_eq_true rfl) (Nat.le_of_ble_eq_true rfl) (Nat.le_of_ble_eq_true rfl) (hb hby at_209) (q := 212) rfl (fun v439 T439 L439 X439 hQ439 => ?_)
  generalize e439 : T439.heap = h439 at hQ439
  obtain ⟨rfl, rfl, E439⟩ := hQ439
  have z_439 := Nat.le_trans Z438 E439.1
  have f440 := (A438.ext E439)
  have f441 := (B438.ext E439)
  have f442 := (C438.ext E439)
  have f443 := (V438.ext E439)
  have N439 := Fr.app N438 (Fr.nil n0)
  show Go p e below _ (T439.setTop (mkF m 212 #[.val (.int a), .val (.int b), .val (.int c0), .val (.int t), .val (.int n), .val (.long xv), .second, .val (.long yv), .second, .val (.long zv), .second, .val (.long (own_minL (own_minL xv yv) zv)), .second, .val (.long (own_maxL (own_maxL xv yv) zv)), .second, .val (.long ((((xv + yv) + zv) - (own_minL (own_minL xv yv) zv)) - (own_maxL (own_maxL xv yv) zv))), .second, .val (.int p0), .val (.int p1), .val (.int p2), .val (.int (3 : Int32)), .val (.ref bi), .val (.int (3 : Int32))] [(.int p0)]))
  refine g_iconst X439 hx (hb hby at_212) (n := (0 : Int32)) (by decide) (q := 213) rfl ?_
  refine g_iload X439 hx (hb hby at_213) (v := (3 : Int32)) rfl (q := 215) rfl ?_
  refine g_iload X439 hx (hb hby at_215) (v := p0) rfl (q := 217) rfl ?_
  refine g_iload X439 hx (hb hby at_217) (v := p1) rfl (q := 219) rfl ?_
  refine g_iload X439 hx (hb hby at_219) (v := p2) rfl (q := 221) rfl ?_
  refine g_callS X439 hx hZ hown (hw _ (List.mem_of_getElem? (i := 40) rfl)) (hw _ (List.mem_of_getElem? (i := 41) rfl)) (hw _ (List.mem_of_getElem? (i := 42) rfl)) (hw _ (List.mem_of_getElem? (i := 43) rfl)) (by decide) e439 (rmX l Z a0 hw (0 : Int32) (3 : Int32) p0 p1 p2 p0 (own_exp_03 p0 p1 p2) h439) (by exact hml.symm) (argsL := [(.int (0 : Int32)), (.int (3 : Int32)), (.int p0), (.int p1), (.int p2)]) (rest := [(.int p0)]) rfl rfl pd_6 rfl (Nat.le_of_ble_eq_true rfl) (Nat.le_of_ble_eq_true rfl) (Nat.le_of_ble_eq_true rfl) (Nat.le_of_ble_eq_true rfl) (hb hby at_221) (q := 224) rfl (g_pure rfl rfl fun T444 X444 e444 => ?_)
  show Go p e below _ (T444.setTop (mkF m 224 #[.val (.int a), .val (.int b), .val (.int c0), .val (.int t), .val (.int n), .val (.long xv), .second, .val (.long yv), .second, .val (.long zv), .second, .val (.long (own_minL (own_minL xv yv) zv)), .second, .val (.long (own_maxL (own_maxL xv yv) zv)), .second, .val (.long ((((xv + yv) + zv) - (own_minL (own_minL xv yv) zv)) - (own_maxL (own_maxL xv yv) zv))), .second, .val (.int p0), .val (.int p1), .val (.int p2), .val (.int (3 : Int32)), .val (.ref bi), .val (.int (3 : Int32))] [(.int p0), (.int p0)]))
  refine g_icmp_ne X444 hx (hb hby at_224) (by decide) (q := 275) (by decide) (q2 := 227) rfl (fun hb224 => absurd hb224 (not_not_intro rfl)) (fun hb224 => ?_)
  refine g_aload X444 hx (hb hby at_227) (v := (.ref bi)) rfl rfl (q := 229) rfl ?_
  refine g_lconst X444 hx (hb hby at_229) (n := (1 : Int64)) (by decide) (q := 230) rfl ?_
  refine g_callVH X444 hx hH hown (hw _ (List.mem_of_getElem? (i := 27) rfl)) (hw _ (List.mem_of_getElem? (i := 28) rfl)) (hw _ (List.mem_of_getElem? (i := 30) rfl)) (hw _ (List.mem_of_getElem? (i := 29) rfl)) (hw _ (List.mem_of_getElem? (i := 31) rfl)) (hw _ (List.mem_of_getElem? (i := 10) rfl)) (notFace_of_selects (args := #[]) (mvT hZ (hw _ (List.mem_of_getElem? (i := 30) rfl)))) (by decide) e444 f440 (rmF31 l Z a0 hw bi ae (own_entry (0 : Int32) p0) p0 (own_entry (1 : Int32) p1) p1 (own_entry (2 : Int32) p2) p2 (fun i => if i = (5 : Int32).toNatClampNeg then .long (2 : Int64) else if i = (4 : Int32).toNatClampNeg then .long (own_entry (2 : Int32) p2) else (fun i => if i = (3 : Int32).toNatClampNeg then .long (1 : Int64) else if i = (2 : Int32).toNatClampNeg then .long (own_entry (1 : Int32) p1) else (fun i => if i = (1 : Int32).toNatClampNeg then .long (0 : Int64) else if i = (0 : Int32).toNatClampNeg then .long (own_entry (0 : Int32) p0) else (fun _ => .long (0 : Int64)) i) i) i) h439 f440 f441 f442 f443 q0 r0 o0 q1 r1 o1 q2 r2 o2) (by exact hml.symm) (argsL := [(.long (1 : Int64))]) (rest := []) rfl rfl pd_5 rfl (Nat.le_of_ble_eq_true rfl) (Nat.le_of_ble_eq_true rfl) (Nat.le_of_ble_eq_true rfl) (Nat.le_of_ble_eq_true rfl) (hb hby at_230) (q := 233) rfl (fun v445 T445 L445 X445 hQ445 => ?_)
  generalize e445 : T445.heap = h445 at hQ445
  obtain ⟨rfl, rfl, E445⟩ := hQ445
  have z_445 := Nat.le_trans z_439 E445.1
  have f446 := (f440.ext E445)
  have f447 := (f441.ext E445)
  have f448 := (f442.ext E445)
  have f449 := (f443.ext E445)
  have N445 := Fr.app N439 (Fr.nil n0)
  show Go p e below _ (T445.setTop (mkF m 233 #[.val (.int a), .val (.int b), .val (.int c0), .val (.int t), .val (.int n), .val (.long xv), .second, .val (.long yv), .second, .val (.long zv), .second, .val (.long (own_minL (own_minL xv yv) zv)), .second, .val (.long (own_maxL (own_maxL xv yv) zv)), .second, .val (.long ((((xv + yv) + zv) - (own_minL (own_minL xv yv) zv)) - (own_maxL (own_maxL xv yv) zv))), .second, .val (.int p0), .val (.int p1), .val (.int p2), .val (.int (3 : Int32)), .val (.ref bi), .val (.int (3 : Int32))] [(.int p1)]))
  refine g_iconst X445 hx (hb hby at_233) (n := (1 : Int32)) (by decide) (q := 234) rfl ?_
  refine g_iload X445 hx (hb hby at_234) (v := (3 : Int32)) rfl (q := 236) rfl ?_
  refine g_iload X445 hx (hb hby at_236) (v := p0) rfl (q := 238) rfl ?_
  refine g_iload X445 hx (hb hby at_238) (v := p1) rfl (q := 240) rfl ?_
  refine g_iload X445 hx (hb hby at_240) (v := p2) rfl (q := 242) rfl ?_
  refine g_callS X445 hx hZ hown (hw _ (List.mem_of_getElem? (i := 40) rfl)) (hw _ (List.mem_of_getElem? (i := 41) rfl)) (hw _ (List.mem_of_getElem? (i := 42) rfl)) (hw _ (List.mem_of_getElem? (i := 43) rfl)) (by decide) e445 (rmX l Z a0 hw (1 : Int32) (3 : Int32) p0 p1 p2 p1 (own_exp_13 p0 p1 p2) h445) (by exact hml.symm) (argsL := [(.int (1 : Int32)), (.int (3 : Int32)), (.int p0), (.int p1), (.int p2)]) (rest := [(.int p1)]) rfl rfl pd_6 rfl (Nat.le_of_ble_eq_true rfl) (Nat.le_of_ble_eq_true rfl) (Nat.le_of_ble_eq_true rfl) (Nat.le_of_ble_eq_true rfl) (hb hby at_242) (q := 245) rfl (g_pure rfl rfl fun T450 X450 e450 => ?_)
  show Go p e below _ (T450.setTop (mkF m 245 #[.val (.int a), .val (.int b), .val (.int c0), .val (.int t), .val (.int n), .val (.long xv), .second, .val (.long yv), .second, .val (.long zv), .second, .val (.long (own_minL (own_minL xv yv) zv)), .second, .val (.long (own_maxL (own_maxL xv yv) zv)), .second, .val (.long ((((xv + yv) + zv) - (own_minL (own_minL xv yv) zv)) - (own_maxL (own_maxL xv yv) zv))), .second, .val (.int p0), .val (.int p1), .val (.int p2), .val (.int (3 : Int32)), .val (.ref bi), .val (.int (3 : Int32))] [(.int p1), (.int p1)]))
  refine g_icmp_ne X450 hx (hb hby at_245) (by decide) (q := 275) (by decide) (q2 := 248) rfl (fun hb245 => absurd hb245 (not_not_intro rfl)) (fun hb245 => ?_)
  refine g_aload X450 hx (hb hby at_248) (v := (.ref bi)) rfl rfl (q := 250) rfl ?_
  refine g_ldcJ X450 hx hZ hown (hw _ (List.mem_of_getElem? (i := 47) rfl)) (hb hby at_250) (q := 253) rfl ?_
  refine g_callVH X450 hx hH hown (hw _ (List.mem_of_getElem? (i := 27) rfl)) (hw _ (List.mem_of_getElem? (i := 28) rfl)) (hw _ (List.mem_of_getElem? (i := 30) rfl)) (hw _ (List.mem_of_getElem? (i := 29) rfl)) (hw _ (List.mem_of_getElem? (i := 31) rfl)) (hw _ (List.mem_of_getElem? (i := 10) rfl)) (notFace_of_selects (args := #[]) (mvT hZ (hw _ (List.mem_of_getElem? (i := 30) rfl)))) (by decide) e450 f446 (rmF32 l Z a0 hw bi ae (own_entry (0 : Int32) p0) p0 (own_entry (1 : Int32) p1) p1 (own_entry (2 : Int32) p2) p2 (fun i => if i = (5 : Int32).toNatClampNeg then .long (2 : Int64) else if i = (4 : Int32).toNatClampNeg then .long (own_entry (2 : Int32) p2) else (fun i => if i = (3 : Int32).toNatClampNeg then .long (1 : Int64) else if i = (2 : Int32).toNatClampNeg then .long (own_entry (1 : Int32) p1) else (fun i => if i = (1 : Int32).toNatClampNeg then .long (0 : Int64) else if i = (0 : Int32).toNatClampNeg then .long (own_entry (0 : Int32) p0) else (fun _ => .long (0 : Int64)) i) i) i) h445 f446 f447 f448 f449 q0 r0 o0 q1 r1 o1 q2 r2 o2) (by exact hml.symm) (argsL := [(.long (2 : Int64))]) (rest := []) rfl rfl pd_5 rfl (Nat.le_of_ble_eq_true rfl) (Nat.le_of_ble_eq_true rfl) (Nat.le_of_ble_eq_true rfl) (Nat.le_of_ble_eq_true rfl) (hb hby at_253) (q := 256) rfl (fun v451 T451 L451 X451 hQ451 => ?_)
  generalize e451 : T451.heap = h451 at hQ451
  obtain ⟨rfl, rfl, E451⟩ := hQ451
  have z_451 := Nat.le_trans z_445 E451.1
  have f452 := (f446.ext E451)
  have f453 := (f447.ext E451)
  have f454 := (f448.ext E451)
  have f455 := (f449.ext E451)
  have N451 := Fr.app N445 (Fr.nil n0)
  show Go p e below _ (T451.setTop (mkF m 256 #[.val (.int a), .val (.int b), .val (.int c0), .val (.int t), .val (.int n), .val (.long xv), .second, .val (.long yv), .second, .val (.long zv), .second, .val (.long (own_minL (own_minL xv yv) zv)), .second, .val (.long (own_maxL (own_maxL xv yv) zv)), .second, .val (.long ((((xv + yv) + zv) - (own_minL (own_minL xv yv) zv)) - (own_maxL (own_maxL xv yv) zv))), .second, .val (.int p0), .val (.int p1), .val (.int p2), .val (.int (3 : Int32)), .val (.ref bi), .val (.int (3 : Int32))] [(.int p2)]))
  refine g_iconst X451 hx (hb hby at_256) (n := (2 : Int32)) (by decide) (q := 257) rfl ?_
  refine g_iload X451 hx (hb hby at_257) (v := (3 : Int32)) rfl (q := 259) rfl ?_
  refine g_iload X451 hx (hb hby at_259) (v := p0) rfl (q := 261) rfl ?_
  refine g_iload X451 hx (hb hby at_261) (v := p1) rfl (q := 263) rfl ?_
  refine g_iload X451 hx (hb hby at_263) (v := p2) rfl (q := 265) rfl ?_
  refine g_callS X451 hx hZ hown (hw _ (List.mem_of_getElem? (i := 40) rfl)) (hw _ (List.mem_of_getElem? (i := 41) rfl)) (hw _ (List.mem_of_getElem? (i := 42) rfl)) (hw _ (List.mem_of_getElem? (i := 43) rfl)) (by decide) e451 (rmX l Z a0 hw (2 : Int32) (3 : Int32) p0 p1 p2 p2 (own_exp_23 p0 p1 p2) h451) (by exact hml.symm) (argsL := [(.int (2 : Int32)), (.int (3 : Int32)), (.int p0), (.int p1), (.int p2)]) (rest := [(.int p2)]) rfl rfl pd_6 rfl (Nat.le_of_ble_eq_true rfl) (Nat.le_of_ble_eq_true rfl) (Nat.le_of_ble_eq_true rfl) (Nat.le_of_ble_eq_true rfl) (hb hby at_265) (q := 268) rfl (g_pure rfl rfl fun T456 X456 e456 => ?_)
  show Go p e below _ (T456.setTop (mkF m 268 #[.val (.int a), .val (.int b), .val (.int c0), .val (.int t), .val (.int n), .val (.long xv), .second, .val (.long yv), .second, .val (.long zv), .second, .val (.long (own_minL (own_minL xv yv) zv)), .second, .val (.long (own_maxL (own_maxL xv yv) zv)), .second, .val (.long ((((xv + yv) + zv) - (own_minL (own_minL xv yv) zv)) - (own_maxL (own_maxL xv yv) zv))), .second, .val (.int p0), .val (.int p1), .val (.int p2), .val (.int (3 : Int32)), .val (.ref bi), .val (.int (3 : Int32))] [(.int p2), (.int p2)]))
  refine g_icmp_ne X456 hx (hb hby at_268) (by decide) (q := 275) (by decide) (q2 := 271) rfl (fun hb268 => absurd hb268 (not_not_intro rfl)) (fun hb268 => ?_)
  refine g_iconst X456 hx (hb hby at_271) (n := (1 : Int32)) (by decide) (q := 272) rfl ?_
  refine g_goto X456 hx (hb hby at_272) (by decide) (q := 276) (by decide) ?_
  exact g_retB X456 hx hret hlk (hb hby at_276) (by decide) ⟨rfl, by simpa using N451⟩ (Nat.le_of_ble_eq_true rfl) (Nat.le_of_ble_eq_true rfl)
set_option maxRecDepth 65536 in
set_option maxHeartbeats 40000000 in
theorem rm0 (l : Launch) (Z : State) (a0 : Array Value) (hw : ∀ d ∈ tables_1, d.before a0 Z = true) (a b c0 t n : Int32) (h0 : Heap) (n0 : Nat) (Z0 : n0 ≤ h0.size) :
    ConH l Z h0 x code maxLocals ret room_1 #[(.int a), (.int b), (.int c0), (.int t), (.int n)] (fun v h L => v = some (.int 1) ∧ Fr n0 L) := by
  obtain ⟨s0, s1, s2⟩ := own_sorted _ _ _ (own_maskpos a) (own_maskpos b) (own_maskpos c0)
  have g1 := own_nn s0 s1
  have g2 := own_nn g1 s2
  rcases own_and3 n with hk | hk | hk | hk
  · exact law00 l Z a0 hw a b c0 t n _ _ _ _ _ _ h0 n0 Z0 rfl rfl rfl rfl rfl rfl s0 g1 g2 hk
  · by_cases c0' : (own_minL (own_minL (a &&& (2147483647 : Int32)).toInt64 (b &&& (2147483647 : Int32)).toInt64) (c0 &&& (2147483647 : Int32)).toInt64).toInt32 < t
    · exact law11 l Z a0 hw a b c0 t n _ _ _ _ _ _ h0 n0 Z0 rfl rfl rfl rfl rfl rfl s0 g1 g2 hk c0'
    · exact law10 l Z a0 hw a b c0 t n _ _ _ _ _ _ h0 n0 Z0 rfl rfl rfl rfl rfl rfl s0 g1 g2 hk c0'
  · by_cases c1' : (((((a &&& (2147483647 : Int32)).toInt64 + (b &&& (2147483647 : Int32)).toInt64) + (c0 &&& (2147483647 : Int32)).toInt64) - (own_minL (own_minL (a &&& (2147483647 : Int32)).toInt64 (b &&& (2147483647 : Int32)).toInt64) (c0 &&& (2147483647 : Int32)).toInt64)) - (own_maxL (own_maxL (a &&& (2147483647 : Int32)).toInt64 (b &&& (2147483647 : Int32)).toInt64) (c0 &&& (2147483647 : Int32)).toInt64)).toInt32 < t
    · exact law22 l Z a0 hw a b c0 t n _ _ _ _ _ _ h0 n0 Z0 rfl rfl rfl rfl rfl rfl s0 g1 g2 hk (own_ltt s1 c1') c1'
    · by_cases c0' : (own_minL (own_minL (a &&& (2147483647 : Int32)).toInt64 (b &&& (2147483647 : Int32)).toInt64) (c0 &&& (2147483647 : Int32)).toInt64).toInt32 < t
      · exact law21 l Z a0 hw a b c0 t n _ _ _ _ _ _ h0 n0 Z0 rfl rfl rfl rfl rfl rfl s0 g1 g2 hk c0' c1'
      · exact law20 l Z a0 hw a b c0 t n _ _ _ _ _ _ h0 n0 Z0 rfl rfl rfl rfl rfl rfl s0 g1 g2 hk c0' c1'
  · by_cases c2' : (own_maxL (own_maxL (a &&& (2147483647 : Int32)).toInt64 (b &&& (2147483647 : Int32)).toInt64) (c0 &&& (2147483647 : Int32)).toInt64).toInt32 < t
    · exact law33 l Z a0 hw a b c0 t n _ _ _ _ _ _ h0 n0 Z0 rfl rfl rfl rfl rfl rfl s0 g1 g2 hk (own_ltt s1 (own_ltt s2 c2')) (own_ltt s2 c2') c2'
    · by_cases c1' : (((((a &&& (2147483647 : Int32)).toInt64 + (b &&& (2147483647 : Int32)).toInt64) + (c0 &&& (2147483647 : Int32)).toInt64) - (own_minL (own_minL (a &&& (2147483647 : Int32)).toInt64 (b &&& (2147483647 : Int32)).toInt64) (c0 &&& (2147483647 : Int32)).toInt64)) - (own_maxL (own_maxL (a &&& (2147483647 : Int32)).toInt64 (b &&& (2147483647 : Int32)).toInt64) (c0 &&& (2147483647 : Int32)).toInt64)).toInt32 < t
      · exact law32 l Z a0 hw a b c0 t n _ _ _ _ _ _ h0 n0 Z0 rfl rfl rfl rfl rfl rfl s0 g1 g2 hk (own_ltt s1 c1') c1' c2'
      · by_cases c0' : (own_minL (own_minL (a &&& (2147483647 : Int32)).toInt64 (b &&& (2147483647 : Int32)).toInt64) (c0 &&& (2147483647 : Int32)).toInt64).toInt32 < t
        · exact law31 l Z a0 hw a b c0 t n _ _ _ _ _ _ h0 n0 Z0 rfl rfl rfl rfl rfl rfl s0 g1 g2 hk c0' c1' c2'
        · exact law30 l Z a0 hw a b c0 t n _ _ _ _ _ _ h0 n0 Z0 rfl rfl rfl rfl rfl rfl s0 g1 g2 hk c0' c1' c2'
set_option maxRecDepth 65536 in
set_option maxHeartbeats 40000000 in
theorem comes_1 {Post : Tables → Env → Array Value → State → Outcome → State → Prop} (hpost : ∀ tb e args s v u, (limb_1_1.after args s (.returned v) u = true ∧ limb_1_2.after args s (.returned v) u = true ∧ True) → ReturnedEndW s (.returned v) u (Jvm.fieldLocs frame_1_writes args s ++ Jvm.arrayLocs frame_1_arrays args s ++ Jvm.staticLocs frame_1_statics s) 24 192 → Post tb e args s (.returned v) u) :
    ArmFor flags0 classFile x code maxLocals ret World_1 tables_1 room_1 Calls_1 rest_1 Pre_1 Post := by
  intro l hfl _ _ p e ha hc hk s m args below hf hA hF happ hP
  obtain ⟨hcalls, hrest, hpre⟩ := hP
  obtain ⟨-, -, -, hnamed, -, -, -, hat⟩ := (Spec.applies_iff hf).mp happ
  obtain ⟨hg, hn⟩ := and_e (Cond.before_iff.mp (show (Jvm.Cond.and given_1 narrow_1).before args s = true from hpre))
  obtain ⟨gc, gr0⟩ := and_e hg
  obtain ⟨ga0, gr1⟩ := and_e gr0
  obtain ⟨ga1, gr2⟩ := and_e gr1
  obtain ⟨ga2, gr3⟩ := and_e gr2
  obtain ⟨ga3, gr4⟩ := and_e gr3
  have ga4 := gr4
  obtain ⟨w0, w1, w2, w3, w4, rfl⟩ : ∃ w0 w1 w2 w3 w4 : Value, args = #[w0, w1, w2, w3, w4] := by
    have hs : args.size = 5 := by simpa [Cond.value, given_1] using gc
    obtain ⟨L⟩ := args
    match L, hs with
    | [w0, w1, w2, w3, w4], _ => exact ⟨w0, w1, w2, w3, w4, rfl⟩
  have hw := fun d (hd : d ∈ tables_1) => atoms_spec (ws := Jvm.Cond.code x code maxLocals ret :: tables_1) hat d (List.mem_cons_of_mem _ hd)
  have hfit : Fit s := fun {y c} hc i hi => by
    obtain ⟨ha, rfl⟩ := Array.getElem?_eq_some_iff.mp hc
    have q := List.all_eq_true.mp ((Array.all_eq_true_iff_forall_mem.mp hF) _ (Array.getElem_mem ha)) i (List.mem_range.mpr hi)
    simpa [Array.getElem?_eq_getElem hi] using q
  obtain ⟨i0, ei0⟩ := is_v ga0
  obtain rfl : w0 = (.int i0) := Option.some.inj ei0
  obtain ⟨i1, ei1⟩ := is_v ga1
  obtain rfl : w1 = (.int i1) := Option.some.inj ei1
  obtain ⟨i2, ei2⟩ := is_v ga2
  obtain rfl : w2 = (.int i2) := Option.some.inj ei2
  obtain ⟨i3, ei3⟩ := is_v ga3
  obtain rfl : w3 = (.int i3) := Option.some.inj ei3
  obtain ⟨i4, ei4⟩ := is_v ga4
  obtain rfl : w4 = (.int i4) := Option.some.inj ei4
  obtain ⟨n, o, h1, h2, h3, _, L, rfl, ⟨rfl, N⟩, hq⟩ := rm0 l s _ hw i0 i1 i2 i3 i4 s.heap s.heap.size (Nat.le_refl _) tables_1 p e ha hc hk s m _ below hf ((Spec.applies_iff_loose hf).mp happ).1 ⟨rfl, State.WarmedH.refl s, rfl⟩ trivial
  have hq := Jvm.RoadKit.wide hq
  refine ⟨n, _, h1, h2, h3, hpost _ _ _ _ _ _ ⟨Cond.after_iff.mpr rfl, Cond.after_iff.mpr (eq_i res_at (Term.int_eval (1)) rfl), trivial⟩ ⟨hq.1, hq.2.1, hq.2.2.1, (hq.2.2.2.sift fun y hy => Or.inr (N y hy)).mono (by decide) (by decide)⟩⟩
theorem main_1_1 : Claimed_1_1 := comes_1 fun _ _ _ _ _ _ h hF => ⟨h.1, hF⟩
theorem main_1_2 : Claimed_1_2 := comes_1 fun _ _ _ _ _ _ h hF => ⟨h.2.1, hF⟩
end Jvm.Pilot.@@N@@
namespace Jvm.Pilot.@@N@@
open Jvm Jvm.ClassFile Sem Op Lib Jvm.Free Jvm.Stand Jvm.Pilot.@@N@@.Jvm.D
/-! MADE BY PROGRAM (witnessworld.py) out of the Statement's table words and the real class files: 14 classes; the members and pool entries that the words name. The judged class is class 1, her method 1. -/
namespace start1
open Jvm.ClassFile
def u (s : String) : CpInfo := .utf8 (stringToUtf16 s)
/-- a pool by its gaps: so many unusable entries, then the entry; so many at the end -/
def gap : Nat → List CpInfo → List CpInfo
  | 0, r => r
  | n + 1, r => .unusable :: gap n r
def poolList (es : List (Nat × CpInfo)) (last : Nat) : List CpInfo := es.foldr (fun e r => gap e.1 (e.2 :: r)) (gap last [])
def pool (es : List (Nat × CpInfo)) (last : Nat) : Array CpInfo := ⟨poolList es last⟩
def fileOf (pool : Array CpInfo) (this : Nat) (attrs : Array Attribute := #[]) (ms : Array MethodInfo := #[]) (fl : Nat := 33) (sup : Nat := 0) (ifs : Array Nat := #[]) (fds : Array FieldInfo := #[]) : ClassFile where
  minorVersion := 0
  majorVersion := 65
  constantPool := pool
  accessFlags := fl
  thisClass := this
  superClass := sup
  interfaces := ifs
  fields := fds
  methods := ms
  attributes := attrs
def plain (name : String) (sup : Option ClassId) : Class where
  name := name
  kind := .ordinary
  loader := none
  accessFlags := 33
  super := sup
  interfaces := #[]
  cf := none
  fields := #[]
  methods := #[]
  instanceTypes := #[]
  staticTypes := #[]
  resolved := #[]
  callSites := []
  init := .initialized
  statics := none
  mirror := none

def pool0 : Array CpInfo := pool [(5, u "<init>"), (0, u "()V"), (1, .class_ 10), (1, u "java/lang/Object")] 113

def k0c0 : Code := { maxStack := 0, maxLocals := 1, code := object_method_1_code, exceptionTable := #[], attributes := #[] }
def k0m0 : Method := { name := "<init>", desc := "()V", sig := { parameters := [], returnType := none }, accessFlags := 1, code := some k0c0 }
/-- java/lang/Object -/
def k0 : Class := { plain "java/lang/Object" none with
  accessFlags := 33
  interfaces := #[]
  cf := some (fileOf pool0 8 #[] #[{ accessFlags := 1, nameIndex := 5, descriptorIndex := 6, attributes := #[] }] 33 0 #[] #[])
  fields := #[]
  methods := #[k0m0]
  instanceTypes := #[]
  staticTypes := #[]
  resolved := Array.replicate 124 none
  statics := none }

def pool1 : Array CpInfo := pool [(2, .class_ 4), (0, .nameAndType 5 6), (0, u "java/lang/Object"), (0, u "<init>"), (0, u "()V"), (0, .integer 2147483647), (0, .methodref 9 10), (0, .class_ 11), (0, .nameAndType 12 13), (0, u "java/lang/Math"), (0, u "min"), (0, u "(JJ)J"), (0, .methodref 9 15), (0, .nameAndType 16 13), (0, u "max"), (0, .class_ 18), (0, u "com/example/newlyn/newlyn/storage/SegmentIndex"), (0, .methodref 17 3), (0, .methodref 17 21), (0, .nameAndType 22 23), (0, u "add"), (0, u "(IIJ)V"), (0, .long 2), (1, .methodref 17 27), (0, .nameAndType 28 29), (0, u "truncate"), (0, u "(I)V"), (0, .methodref 17 31), (0, .nameAndType 32 33), (0, u "floorPosition"), (0, u "(J)I"), (0, .methodref 35 36), (0, .class_ 37), (0, .nameAndType 38 39), (0, u "com/example/newlyn/newlyn/storage/SegmentIndexTruncatePinLaw"), (0, u "expected"), (0, u "(IIIII)I"), (0, .methodref 9 41), (0, .nameAndType 12 42), (0, u "(II)I"), (2, u "law"), (0, u "(IIIII)Z")] 3

def k1m0 : Method := { name := "<init>", desc := "()V", sig := { parameters := [], returnType := none }, accessFlags := 1, code := none }
def k1c1 : Code := { maxStack := 6, maxLocals := 23, code := code, exceptionTable := #[], attributes := #[] }
def k1m1 : Method := { name := "law", desc := "(IIIII)Z", sig := { parameters := [.int, .int, .int, .int, .int], returnType := some .boolean }, accessFlags := 9, code := some k1c1 }
def k1c2 : Code := { maxStack := 3, maxLocals := 6, code := method_3_code, exceptionTable := #[], attributes := #[] }
def k1m2 : Method := { name := "expected", desc := "(IIIII)I", sig := { parameters := [.int, .int, .int, .int, .int], returnType := some .int }, accessFlags := 10, code := some k1c2 }
/-- com/example/newlyn/newlyn/storage/SegmentIndexTruncatePinLaw -/
def k1 : Class := { plain "com/example/newlyn/newlyn/storage/SegmentIndexTruncatePinLaw" (some 0) with
  accessFlags := 49
  interfaces := #[]
  cf := some (fileOf pool1 35 #[] #[{ accessFlags := 1, nameIndex := 5, descriptorIndex := 6, attributes := #[] }, { accessFlags := 9, nameIndex := 45, descriptorIndex := 46, attributes := #[] }, { accessFlags := 10, nameIndex := 38, descriptorIndex := 39, attributes := #[] }] 49 2 #[] #[])
  fields := #[]
  methods := #[k1m0, k1m1, k1m2]
  instanceTypes := #[]
  staticTypes := #[]
  resolved := Array.replicate 50 none
  statics := none }

def pool2 : Array CpInfo := pool [(1, .class_ 2), (0, u "java/lang/Math"), (1, .class_ 6), (1, u "java/lang/Object"), (0, u "<init>"), (0, u "()V"), (89, .class_ 100), (1, u "java/lang/Math$RandomNumberGeneratorHolder"), (20, u "(JJ)J"), (50, u "negativeZeroFloatBits"), (0, u "J"), (2, u "negativeZeroDoubleBits"), (21, u "max"), (2, u "min"), (43, u "$assertionsDisabled"), (0, u "Z"), (88, u "(II)I"), (2, u "twoToTheDoubleScaleDown"), (0, u "D"), (4, u "twoToTheDoubleScaleUp"), (9, u "E"), (3, u "PI"), (2, u "TAU"), (2, u "DEGREES_TO_RADIANS"), (0, u "RADIANS_TO_DEGREES")] 94

def k2m0 : Method := { name := "<init>", desc := "()V", sig := { parameters := [], returnType := none }, accessFlags := 2, code := none }
def k2c1 : Code := { maxStack := 4, maxLocals := 4, code := jdk_29_method_66_code, exceptionTable := #[], attributes := #[] }
def k2m1 : Method := { name := "max", desc := "(JJ)J", sig := { parameters := [.long, .long], returnType := some .long }, accessFlags := 9, code := some k2c1 }
def k2c2 : Code := { maxStack := 2, maxLocals := 2, code := jdk_29_method_69_code, exceptionTable := #[], attributes := #[] }
def k2m2 : Method := { name := "min", desc := "(II)I", sig := { parameters := [.int, .int], returnType := some .int }, accessFlags := 9, code := some k2c2 }
def k2c3 : Code := { maxStack := 4, maxLocals := 4, code := jdk_29_method_70_code, exceptionTable := #[], attributes := #[] }
def k2m3 : Method := { name := "min", desc := "(JJ)J", sig := { parameters := [.long, .long], returnType := some .long }, accessFlags := 9, code := some k2c3 }
/-- java/lang/Math -/
def k2 : Class := { plain "java/lang/Math" (some 0) with
  accessFlags := 49
  interfaces := #[]
  cf := some (fileOf pool2 1 #[.nestMembers #[98]] #[{ accessFlags := 2, nameIndex := 7, descriptorIndex := 8, attributes := #[] }, { accessFlags := 9, nameIndex := 198, descriptorIndex := 121, attributes := #[] }, { accessFlags := 9, nameIndex := 201, descriptorIndex := 335, attributes := #[] }, { accessFlags := 9, nameIndex := 201, descriptorIndex := 121, attributes := #[] }] 49 4 #[] #[{ accessFlags := 25, nameIndex := 354, descriptorIndex := 339, attributes := #[] }, { accessFlags := 25, nameIndex := 358, descriptorIndex := 339, attributes := #[] }, { accessFlags := 25, nameIndex := 361, descriptorIndex := 339, attributes := #[] }, { accessFlags := 26, nameIndex := 364, descriptorIndex := 339, attributes := #[] }, { accessFlags := 26, nameIndex := 365, descriptorIndex := 339, attributes := #[] }, { accessFlags := 26, nameIndex := 172, descriptorIndex := 173, attributes := #[] }, { accessFlags := 26, nameIndex := 176, descriptorIndex := 173, attributes := #[] }, { accessFlags := 8, nameIndex := 344, descriptorIndex := 339, attributes := #[] }, { accessFlags := 8, nameIndex := 338, descriptorIndex := 339, attributes := #[] }, { accessFlags := 4120, nameIndex := 245, descriptorIndex := 246, attributes := #[] }])
  fields := #[{ name := "E", type := .double, accessFlags := 25, slot := 0, constantValue := 0 }, { name := "PI", type := .double, accessFlags := 25, slot := 1, constantValue := 0 }, { name := "TAU", type := .double, accessFlags := 25, slot := 2, constantValue := 0 }, { name := "DEGREES_TO_RADIANS", type := .double, accessFlags := 26, slot := 3, constantValue := 0 }, { name := "RADIANS_TO_DEGREES", type := .double, accessFlags := 26, slot := 4, constantValue := 0 }, { name := "negativeZeroFloatBits", type := .long, accessFlags := 26, slot := 5, constantValue := 0 }, { name := "negativeZeroDoubleBits", type := .long, accessFlags := 26, slot := 6, constantValue := 0 }, { name := "twoToTheDoubleScaleUp", type := .double, accessFlags := 8, slot := 7, constantValue := 0 }, { name := "twoToTheDoubleScaleDown", type := .double, accessFlags := 8, slot := 8, constantValue := 0 }, { name := "$assertionsDisabled", type := .boolean, accessFlags := 4120, slot := 9, constantValue := 0 }]
  methods := #[k2m0, k2m1, k2m2, k2m3]
  instanceTypes := #[]
  staticTypes := #[.double, .double, .double, .double, .double, .long, .long, .double, .double, .boolean]
  resolved := Array.replicate 460 none
  statics := none }

def pool3 : Array CpInfo := pool [(1, .methodref 2 3), (0, .class_ 4), (0, .nameAndType 5 6), (0, u "java/lang/Object"), (0, u "<init>"), (0, u "()V"), (0, .class_ 8), (0, u "com/example/newlyn/newlyn/storage/SegmentIndex"), (0, .fieldref 7 10), (0, .nameAndType 11 12), (0, u "entries"), (0, u "[J"), (0, .fieldref 7 14), (0, .nameAndType 15 16), (0, u "count"), (0, u "I"), (6, .invokeDynamic 0 24), (0, .nameAndType 25 26), (0, u "test"), (0, u "(J)Lcom/example/newlyn/newlyn/storage/SegmentIndex$EntryTest;"), (0, .methodref 7 28), (0, .nameAndType 29 30), (0, u "lastPosition"), (0, u "(Lcom/example/newlyn/newlyn/storage/SegmentIndex$EntryTest;)I"), (1, .interfaceMethodref 33 34), (0, .class_ 35), (0, .nameAndType 25 36), (0, u "com/example/newlyn/newlyn/storage/SegmentIndex$EntryTest"), (0, u "([JI)Z"), (0, u "ENTRY_LONGS"), (4, u "add"), (0, u "(IIJ)V"), (2, u "truncate"), (0, u "(I)V"), (0, u "floorPosition"), (0, u "(J)I"), (2, u "(J[JI)Z"), (0, u "lambda$floorPosition$0"), (4, .methodType 36), (0, .methodHandle 6 60), (0, .methodref 7 61), (0, .nameAndType 53 52), (3, .methodHandle 6 66), (0, .methodref 67 68), (0, .class_ 69), (0, .nameAndType 70 71), (0, u "java/lang/invoke/LambdaMetafactory"), (0, u "metafactory"), (0, u "(Ljava/lang/invoke/MethodHandles$Lookup;Ljava/lang/String;Ljava/lang/invoke/MethodType;Ljava/lang/invoke/MethodType;Ljava/lang/invoke/MethodHandle;Ljava/lang/invoke/MethodType;)Ljava/lang/invoke/CallSite;")] 7

def k3c0 : Code := { maxStack := 2, maxLocals := 1, code := prog_23_method_1_code, exceptionTable := #[], attributes := #[] }
def k3m0 : Method := { name := "<init>", desc := "()V", sig := { parameters := [], returnType := none }, accessFlags := 0, code := some k3c0 }
def k3c1 : Code := { maxStack := 6, maxLocals := 6, code := prog_23_method_2_code, exceptionTable := #[], attributes := #[] }
def k3m1 : Method := { name := "add", desc := "(IIJ)V", sig := { parameters := [.int, .int, .long], returnType := none }, accessFlags := 0, code := some k3c1 }
def k3c2 : Code := { maxStack := 3, maxLocals := 4, code := prog_23_method_3_code, exceptionTable := #[], attributes := #[] }
def k3m2 : Method := { name := "truncate", desc := "(I)V", sig := { parameters := [.int], returnType := none }, accessFlags := 0, code := some k3c2 }
def k3c3 : Code := { maxStack := 3, maxLocals := 3, code := prog_23_method_4_code, exceptionTable := #[], attributes := #[] }
def k3m3 : Method := { name := "floorPosition", desc := "(J)I", sig := { parameters := [.long], returnType := some .int }, accessFlags := 0, code := some k3c3 }
def k3c4 : Code := { maxStack := 3, maxLocals := 8, code := prog_23_method_6_code, exceptionTable := #[], attributes := #[] }
def k3m4 : Method := { name := "lastPosition", desc := "(Lcom/example/newlyn/newlyn/storage/SegmentIndex$EntryTest;)I", sig := { parameters := [(.object "com/example/newlyn/newlyn/storage/SegmentIndex$EntryTest")], returnType := some .int }, accessFlags := 2, code := some k3c4 }
def k3c5 : Code := { maxStack := 4, maxLocals := 4, code := prog_23_method_8_code, exceptionTable := #[], attributes := #[] }
def k3m5 : Method := { name := "lambda$floorPosition$0", desc := "(J[JI)Z", sig := { parameters := [.long, (.array .long), .int], returnType := some .boolean }, accessFlags := 4106, code := some k3c5 }
/-- com/example/newlyn/newlyn/storage/SegmentIndex -/
def k3 : Class := { plain "com/example/newlyn/newlyn/storage/SegmentIndex" (some 0) with
  accessFlags := 48
  interfaces := #[]
  cf := some (fileOf pool3 7 #[.nestMembers #[33], .bootstrapMethods #[⟨65, #[58, 59, 58]⟩, ⟨0, #[]⟩]] #[{ accessFlags := 0, nameIndex := 5, descriptorIndex := 6, attributes := #[] }, { accessFlags := 0, nameIndex := 42, descriptorIndex := 43, attributes := #[] }, { accessFlags := 0, nameIndex := 46, descriptorIndex := 47, attributes := #[] }, { accessFlags := 0, nameIndex := 48, descriptorIndex := 49, attributes := #[] }, { accessFlags := 2, nameIndex := 29, descriptorIndex := 30, attributes := #[] }, { accessFlags := 4106, nameIndex := 53, descriptorIndex := 52, attributes := #[] }] 48 2 #[] #[{ accessFlags := 26, nameIndex := 37, descriptorIndex := 16, attributes := #[] }, { accessFlags := 66, nameIndex := 11, descriptorIndex := 12, attributes := #[] }, { accessFlags := 66, nameIndex := 15, descriptorIndex := 16, attributes := #[] }])
  fields := #[{ name := "ENTRY_LONGS", type := .int, accessFlags := 26, slot := 0, constantValue := 0 }, { name := "entries", type := (.array .long), accessFlags := 66, slot := 0, constantValue := 0 }, { name := "count", type := .int, accessFlags := 66, slot := 1, constantValue := 0 }]
  methods := #[k3m0, k3m1, k3m2, k3m3, k3m4, k3m5]
  instanceTypes := #[(.array .long), .int]
  staticTypes := #[.int]
  resolved := Array.replicate 79 none
  callSites := [(3, 2, .makes 13)]
  statics := none }

def pool4 : Array CpInfo := pool [(1, .class_ 2), (0, u "com/example/newlyn/newlyn/storage/SegmentIndex$EntryTest"), (0, .class_ 4), (0, u "java/lang/Object"), (0, u "test"), (0, u "([JI)Z"), (5, .class_ 13), (0, u "com/example/newlyn/newlyn/storage/SegmentIndex")] 2

def k4m0 : Method := { name := "test", desc := "([JI)Z", sig := { parameters := [(.array .long), .int], returnType := some .boolean }, accessFlags := 1025, code := none }
/-- com/example/newlyn/newlyn/storage/SegmentIndex$EntryTest -/
def k4 : Class := { plain "com/example/newlyn/newlyn/storage/SegmentIndex$EntryTest" (some 0) with
  accessFlags := 1536
  interfaces := #[]
  cf := some (fileOf pool4 1 #[.nestHost 12] #[{ accessFlags := 1025, nameIndex := 5, descriptorIndex := 6, attributes := #[] }] 1536 3 #[] #[])
  fields := #[]
  methods := #[k4m0]
  instanceTypes := #[]
  staticTypes := #[]
  resolved := Array.replicate 16 none
  statics := none }

def pool5 : Array CpInfo := pool [(1, u "java/lang/Cloneable"), (0, .class_ 1), (0, u "java/lang/Object"), (0, .class_ 3)] 3

/-- java/lang/Cloneable -/
def k5 : Class := { plain "java/lang/Cloneable" (some 0) with
  accessFlags := 1537
  interfaces := #[]
  cf := some (fileOf pool5 2 #[] #[] 1537 4 #[] #[])
  fields := #[]
  methods := #[]
  instanceTypes := #[]
  staticTypes := #[]
  resolved := Array.replicate 8 none
  statics := none }

def pool6 : Array CpInfo := pool [(1, u "java/io/Serializable"), (0, .class_ 1), (0, u "java/lang/Object"), (0, .class_ 3)] 3

/-- java/io/Serializable -/
def k6 : Class := { plain "java/io/Serializable" (some 0) with
  accessFlags := 1537
  interfaces := #[]
  cf := some (fileOf pool6 2 #[] #[] 1537 4 #[] #[])
  fields := #[]
  methods := #[]
  instanceTypes := #[]
  staticTypes := #[]
  resolved := Array.replicate 8 none
  statics := none }

/-- the primitive byte -/
def k7 : Class := { plain "byte" none with kind := .primitive 'B', accessFlags := 0x411 }
/-- [B -/
def k8 : Class := { plain "[B" (some 0) with kind := .array 7 .byte, interfaces := #[5, 6], accessFlags := 1041 }

/-- the primitive int -/
def k9 : Class := { plain "int" none with kind := .primitive 'I', accessFlags := 0x411 }
/-- [I -/
def k10 : Class := { plain "[I" (some 0) with kind := .array 9 .int, interfaces := #[5, 6], accessFlags := 1041 }

/-- the primitive long -/
def k11 : Class := { plain "long" none with kind := .primitive 'J', accessFlags := 0x411 }
/-- [J -/
def k12 : Class := { plain "[J" (some 0) with kind := .array 11 .long, interfaces := #[5, 6], accessFlags := 1041 }

def classes0 : Array Class := #[k0, k1, k2, k3, k4, k5, k6, k7, k8, k9, k10, k11, k12]
/-- the class that the rule has made for the site at 2 of com/example/newlyn/newlyn/storage/SegmentIndex.floorPosition -/
def k13 : Class := Jvm.LamKit.madeRec { classes := classes0 } "com/example/newlyn/newlyn/storage/SegmentIndex" (Jvm.Lambda.Shape.mk "com/example/newlyn/newlyn/storage/SegmentIndex$EntryTest" "test" (Jvm.ClassFile.MethodDescriptor.mk ([(Jvm.ClassFile.FieldType.array Jvm.ClassFile.FieldType.long), Jvm.ClassFile.FieldType.int] : List Jvm.ClassFile.FieldType) (Option.some Jvm.ClassFile.FieldType.boolean)) ([Jvm.ClassFile.FieldType.long] : List Jvm.ClassFile.FieldType) (6 : Nat) "com/example/newlyn/newlyn/storage/SegmentIndex" "lambda$floorPosition$0" (Jvm.ClassFile.MethodDescriptor.mk ([Jvm.ClassFile.FieldType.long, (Jvm.ClassFile.FieldType.array Jvm.ClassFile.FieldType.long), Jvm.ClassFile.FieldType.int] : List Jvm.ClassFile.FieldType) (Option.some Jvm.ClassFile.FieldType.boolean)) false (Jvm.ClassFile.MethodDescriptor.mk ([(Jvm.ClassFile.FieldType.array Jvm.ClassFile.FieldType.long), Jvm.ClassFile.FieldType.int] : List Jvm.ClassFile.FieldType) (Option.some Jvm.ClassFile.FieldType.boolean))) 13

def heap : Heap := #[]
def classes : Array Class := #[k0, k1, k2, k3, k4, k5, k6, k7, k8, k9, k10, k11, k12, k13]
def interned : List (Array UInt16 × Addr) := []
def slotsUsed : Nat := 0
def theMethod : MethodId := ⟨1, 1⟩
def args0 : Array Value := #[.int 5, .int 1, .int 7, .int 2, .int 3]
def aboutOver (below : List Frame) : State where
  vm := { classes := classes, interned := interned.toArray }
  heap := heap
  slotsUsed := slotsUsed
  threads := #[{ frames := .invoking theMethod args0 :: below }]
def below0 : List Frame := [.native { method := ⟨0, 0⟩, args := #[] }]
def about1 : State := aboutOver below0
def p0 : Program := .bare "" "" ""
def e0 : Env := launch0.env 0 0 0
theorem w_frames : about1.frames = Frame.invoking theMethod args0 :: below0 := rfl
set_option maxRecDepth 65536 in
theorem w_args : argsFit about1.vm theMethod args0 = true := by decide +kernel
set_option maxRecDepth 65536 in
theorem w_heap : heapFits about1 = true := by decide +kernel
set_option maxRecDepth 65536 in
theorem w_runnable : about1.curStatus? = some .runnable := by decide +kernel
set_option maxRecDepth 65536 in
theorem w_alone : about1.alone = true := by decide +kernel
set_option maxRecDepth 65536 in
theorem w_named : about1.methodNamed? x = some theMethod := by decide +kernel
set_option maxRecDepth 65536 in
theorem w_hears : about1.hears theMethod below0 = true := by decide +kernel
set_option maxRecDepth 65536 in
theorem w_ripe : about1.ripe theMethod args0 below0 = true := by decide +kernel
theorem w_running : about1.status = .running := rfl
set_option maxRecDepth 65536 in
theorem w_room : about1.hasRoom e0.platform room_1 = true :=
  launch0.hasRoom_least _ room_1 (by decide +kernel) (by decide +kernel) (by decide +kernel) (by decide +kernel) (by decide +kernel) (by decide +kernel)
theorem allAtoms_all (ts : List Jvm.Cond) (a : Array Jvm.Value) (st : Jvm.State) : (allAtoms ts).before a st = ts.all (fun c => c.before a st) := by
  induction ts with
  | nil => rfl
  | cons c t ih =>
    show (Jvm.Cond.and c (allAtoms t)).before a st = _
    rw [Jvm.Cond.before_and, ih, List.all_cons]
def words1 : List Jvm.Cond := Jvm.Cond.code x code maxLocals ret :: tables_1
/-- a 'code' word, met by the world's own term for the bytes: nothing is compared byte by byte -/
theorem code_word {y : MethodName} {bytes : ByteArray} {mx : Nat} {rt : Option FieldType} {a : Array Value} {s : State} {m : MethodId} {meth : Method} {c : Code} (h1 : s.methodNamed? y = some m) (h2 : s.vm.method? m = some meth) (h3 : meth.code = some c) (h4 : c.code = bytes)
    (h5 : (c.maxLocals == mx && c.exceptionTable.isEmpty && decide (c.maxStack ≤ mostOperands) && decide (meth.sig.returnType = rt) && !meth.locks && decide (parseMethodDescriptor y.desc = some meth.sig)) = true) : (Jvm.Cond.code y bytes mx rt).before a s = true := by
  simp only [Bool.and_eq_true, beq_iff_eq, Bool.not_eq_true', decide_eq_true_eq] at h5
  obtain ⟨⟨⟨⟨⟨g1, g2⟩, g3⟩, g4⟩, g5⟩, g6⟩ := h5
  simp [Cond.before, Cond.holds, Cond.value, h1, h2, h3, h4, g1, g2, g3, g4, g5, g6]
def isCode : Jvm.Cond → Bool
  | .code _ _ _ _ => true
  | _ => false
theorem all_split {L : List Jvm.Cond} {P : Jvm.Cond → Bool} (h1 : L.all (fun c => isCode c || P c) = true) (h2 : ∀ c ∈ L.filter isCode, P c = true) : L.all P = true := by
  refine List.all_eq_true.mpr fun c hc => ?_
  have h := List.all_eq_true.mp h1 c hc
  rcases Bool.eq_false_or_eq_true (isCode c) with hi | hi
  · exact h2 c (List.mem_filter.mpr ⟨hc, hi⟩)
  · simpa [hi] using h
set_option maxRecDepth 65536 in
theorem w_c0 : (Jvm.Cond.code x code maxLocals ret).before args0 about1 = true := code_word (m := ⟨1, 1⟩) (meth := k1m1) (c := k1c1) (by decide +kernel) rfl rfl rfl (by decide +kernel)
set_option maxRecDepth 65536 in
theorem w_c1 : (Jvm.Cond.code ({ cls := "java/lang/Math", name := "min", desc := "(JJ)J" } : Jvm.MethodName) jdk_29_method_70_code (4 : Nat) (Option.some Jvm.ClassFile.FieldType.long)).before args0 about1 = true := code_word (m := ⟨2, 3⟩) (meth := k2m3) (c := k2c3) (by decide +kernel) rfl rfl rfl (by decide +kernel)
set_option maxRecDepth 65536 in
theorem w_c2 : (Jvm.Cond.code ({ cls := "java/lang/Math", name := "max", desc := "(JJ)J" } : Jvm.MethodName) jdk_29_method_66_code (4 : Nat) (Option.some Jvm.ClassFile.FieldType.long)).before args0 about1 = true := code_word (m := ⟨2, 1⟩) (meth := k2m1) (c := k2c1) (by decide +kernel) rfl rfl rfl (by decide +kernel)
set_option maxRecDepth 65536 in
theorem w_c3 : (Jvm.Cond.code ({ cls := "com/example/newlyn/newlyn/storage/SegmentIndex", name := "<init>", desc := "()V" } : Jvm.MethodName) prog_23_method_1_code (1 : Nat) (Option.none : Option Jvm.ClassFile.FieldType)).before args0 about1 = true := code_word (m := ⟨3, 0⟩) (meth := k3m0) (c := k3c0) (by decide +kernel) rfl rfl rfl (by decide +kernel)
set_option maxRecDepth 65536 in
theorem w_c4 : (Jvm.Cond.code ({ cls := "java/lang/Object", name := "<init>", desc := "()V" } : Jvm.MethodName) object_method_1_code (1 : Nat) (Option.none : Option Jvm.ClassFile.FieldType)).before args0 about1 = true := code_word (m := ⟨0, 0⟩) (meth := k0m0) (c := k0c0) (by decide +kernel) rfl rfl rfl (by decide +kernel)
set_option maxRecDepth 65536 in
theorem w_c5 : (Jvm.Cond.code ({ cls := "com/example/newlyn/newlyn/storage/SegmentIndex", name := "truncate", desc := "(I)V" } : Jvm.MethodName) prog_23_method_3_code (4 : Nat) (Option.none : Option Jvm.ClassFile.FieldType)).before args0 about1 = true := code_word (m := ⟨3, 2⟩) (meth := k3m2) (c := k3c2) (by decide +kernel) rfl rfl rfl (by decide +kernel)
set_option maxRecDepth 65536 in
theorem w_c6 : (Jvm.Cond.code ({ cls := "com/example/newlyn/newlyn/storage/SegmentIndex", name := "floorPosition", desc := "(J)I" } : Jvm.MethodName) prog_23_method_4_code (3 : Nat) (Option.some Jvm.ClassFile.FieldType.int)).before args0 about1 = true := code_word (m := ⟨3, 3⟩) (meth := k3m3) (c := k3c3) (by decide +kernel) rfl rfl rfl (by decide +kernel)
set_option maxRecDepth 65536 in
theorem w_c7 : (Jvm.Cond.code ({ cls := "com/example/newlyn/newlyn/storage/SegmentIndex", name := "lastPosition", desc := "(Lcom/example/newlyn/newlyn/storage/SegmentIndex$EntryTest;)I" } : Jvm.MethodName) prog_23_method_6_code (8 : Nat) (Option.some Jvm.ClassFile.FieldType.int)).before args0 about1 = true := code_word (m := ⟨3, 4⟩) (meth := k3m4) (c := k3c4) (by decide +kernel) rfl rfl rfl (by decide +kernel)
set_option maxRecDepth 65536 in
theorem w_c8 : (Jvm.Cond.code ({ cls := "com/example/newlyn/newlyn/storage/SegmentIndexTruncatePinLaw", name := "expected", desc := "(IIIII)I" } : Jvm.MethodName) method_3_code (6 : Nat) (Option.some Jvm.ClassFile.FieldType.int)).before args0 about1 = true := code_word (m := ⟨1, 2⟩) (meth := k1m2) (c := k1c2) (by decide +kernel) rfl rfl rfl (by decide +kernel)
set_option maxRecDepth 65536 in
theorem w_c9 : (Jvm.Cond.code ({ cls := "java/lang/Math", name := "min", desc := "(II)I" } : Jvm.MethodName) jdk_29_method_69_code (2 : Nat) (Option.some Jvm.ClassFile.FieldType.int)).before args0 about1 = true := code_word (m := ⟨2, 2⟩) (meth := k2m2) (c := k2c2) (by decide +kernel) rfl rfl rfl (by decide +kernel)
set_option maxRecDepth 65536 in
theorem w_c10 : (Jvm.Cond.code ({ cls := "com/example/newlyn/newlyn/storage/SegmentIndex", name := "add", desc := "(IIJ)V" } : Jvm.MethodName) prog_23_method_2_code (6 : Nat) (Option.none : Option Jvm.ClassFile.FieldType)).before args0 about1 = true := code_word (m := ⟨3, 1⟩) (meth := k3m1) (c := k3c1) (by decide +kernel) rfl rfl rfl (by decide +kernel)
set_option maxRecDepth 65536 in
theorem w_c11 : (Jvm.Cond.code ({ cls := "com/example/newlyn/newlyn/storage/SegmentIndex", name := "lambda$floorPosition$0", desc := "(J[JI)Z" } : Jvm.MethodName) prog_23_method_8_code (4 : Nat) (Option.some Jvm.ClassFile.FieldType.boolean)).before args0 about1 = true := code_word (m := ⟨3, 5⟩) (meth := k3m5) (c := k3c5) (by decide +kernel) rfl rfl rfl (by decide +kernel)
def codes1 : List Jvm.Cond := [Jvm.Cond.code x code maxLocals ret, Jvm.Cond.code ({ cls := "java/lang/Math", name := "min", desc := "(JJ)J" } : Jvm.MethodName) jdk_29_method_70_code (4 : Nat) (Option.some Jvm.ClassFile.FieldType.long), Jvm.Cond.code ({ cls := "java/lang/Math", name := "max", desc := "(JJ)J" } : Jvm.MethodName) jdk_29_method_66_code (4 : Nat) (Option.some Jvm.ClassFile.FieldType.long), Jvm.Cond.code ({ cls := "com/example/newlyn/newlyn/storage/SegmentIndex", name := "<init>", desc := "()V" } : Jvm.MethodName) prog_23_method_1_code (1 : Nat) (Option.none : Option Jvm.ClassFile.FieldType), Jvm.Cond.code ({ cls := "java/lang/Object", name := "<init>", desc := "()V" } : Jvm.MethodName) object_method_1_code (1 : Nat) (Option.none : Option Jvm.ClassFile.FieldType), Jvm.Cond.code ({ cls := "com/example/newlyn/newlyn/storage/SegmentIndex", name := "truncate", desc := "(I)V" } : Jvm.MethodName) prog_23_method_3_code (4 : Nat) (Option.none : Option Jvm.ClassFile.FieldType), Jvm.Cond.code ({ cls := "com/example/newlyn/newlyn/storage/SegmentIndex", name := "floorPosition", desc := "(J)I" } : Jvm.MethodName) prog_23_method_4_code (3 : Nat) (Option.some Jvm.ClassFile.FieldType.int), Jvm.Cond.code ({ cls := "com/example/newlyn/newlyn/storage/SegmentIndex", name := "lastPosition", desc := "(Lcom/example/newlyn/newlyn/storage/SegmentIndex$EntryTest;)I" } : Jvm.MethodName) prog_23_method_6_code (8 : Nat) (Option.some Jvm.ClassFile.FieldType.int), Jvm.Cond.code ({ cls := "com/example/newlyn/newlyn/storage/SegmentIndexTruncatePinLaw", name := "expected", desc := "(IIIII)I" } : Jvm.MethodName) method_3_code (6 : Nat) (Option.some Jvm.ClassFile.FieldType.int), Jvm.Cond.code ({ cls := "java/lang/Math", name := "min", desc := "(II)I" } : Jvm.MethodName) jdk_29_method_69_code (2 : Nat) (Option.some Jvm.ClassFile.FieldType.int), Jvm.Cond.code ({ cls := "com/example/newlyn/newlyn/storage/SegmentIndex", name := "add", desc := "(IIJ)V" } : Jvm.MethodName) prog_23_method_2_code (6 : Nat) (Option.none : Option Jvm.ClassFile.FieldType), Jvm.Cond.code ({ cls := "com/example/newlyn/newlyn/storage/SegmentIndex", name := "lambda$floorPosition$0", desc := "(J[JI)Z" } : Jvm.MethodName) prog_23_method_8_code (4 : Nat) (Option.some Jvm.ClassFile.FieldType.boolean)]
set_option maxRecDepth 65536 in
theorem codes_eq : words1.filter isCode = codes1 := rfl
theorem w_codes : ∀ c ∈ words1.filter isCode, c.before args0 about1 = true := by
  rw [codes_eq]
  intro c hc
  simp only [codes1, List.mem_cons, List.not_mem_nil, or_false] at hc
  rcases hc with rfl | rfl | rfl | rfl | rfl | rfl | rfl | rfl | rfl | rfl | rfl | rfl
  · exact w_c0
  · exact w_c1
  · exact w_c2
  · exact w_c3
  · exact w_c4
  · exact w_c5
  · exact w_c6
  · exact w_c7
  · exact w_c8
  · exact w_c9
  · exact w_c10
  · exact w_c11
set_option maxRecDepth 65536 in
theorem w_t1 : (words1.take 24).all (fun c => isCode c || c.before args0 about1) = true := by decide +kernel
set_option maxRecDepth 65536 in
theorem w_t2 : ((words1.drop 24).take 24).all (fun c => isCode c || c.before args0 about1) = true := by decide +kernel
set_option maxRecDepth 65536 in
theorem w_t3 : ((words1.drop 24).drop 24).all (fun c => isCode c || c.before args0 about1) = true := by decide +kernel
theorem w_tables : (allAtoms (Jvm.Cond.code x code maxLocals ret :: tables_1)).before args0 about1 = true := by
  rw [allAtoms_all]
  show words1.all (fun c => c.before args0 about1) = true
  refine all_split ?_ w_codes
  rw [← List.take_append_drop 24 words1, List.all_append, w_t1, ← List.take_append_drop 24 (words1.drop 24), List.all_append, w_t2, w_t3]
  rfl
set_option maxRecDepth 65536 in
theorem w_case : (Jvm.Cond.and given_1 narrow_1).before args0 about1 = true := by decide +kernel
theorem w_applies : (headSpec (Jvm.Cond.code x code maxLocals ret :: tables_1) room_1).applies x e0.platform about1 = true :=
  (Spec.applies_iff w_frames).mpr ⟨w_running, w_runnable, w_alone, w_named, w_hears, w_ripe, w_room, w_tables⟩
theorem atStart : AtStart classFile x code maxLocals ret World_1 tables_1 room_1 Calls_1 rest_1 Pre_1 launch0 p0 e0 about1 theMethod args0 below0 :=
  ⟨lists_1, trivial, launch0.admits_env _ _ _, launch0.least_env, fairChoices_fair.cas, fairChoices_fair.clock, w_frames, w_args, w_heap, w_applies, trivial, trivial, w_case⟩
end start1
theorem witness_1 : WitnessClaimed_1 := ⟨start1.p0, start1.e0, start1.about1, start1.theMethod, start1.args0, start1.below0, start1.atStart⟩
end Jvm.Pilot.@@N@@
