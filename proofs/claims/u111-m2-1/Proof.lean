import JvmDerived
import JvmDerived.Pilot.@@N@@Statement
import JvmDerived.Pilot.@@N@@Code
set_option linter.unusedVariables false
set_option linter.unusedSimpArgs false
namespace Jvm.Pilot.@@N@@
open Jvm Jvm.ClassFile Sem Op Lib Jvm.Free Jvm.Stand Jvm.LawKit Jvm.RoadKit Bundle Jvm.Pilot.@@N@@.Jvm.D
section OwnKit
variable {p : Program} {l : Launch} {e : Env} {R : Room} {s : State} {m : MethodId} {args : Array Value} {below : List Frame} {meth : Method} {c : Code} {T : State} {locs : List Loc} {cells slots : Nat} {Z : State} {a0 : Array Value} {h : Heap} {W : State → Prop} {pc q : Nat} {Ls : Array Slot} {St : List Value}
/-- the run comes from S to an end of which W holds -/
def Go (p : Program) (e : Env) (below : List Frame) (W : State → Prop) (S : State) : Prop := ∃ U, Steps p.tables e below S U ∧ W U
theorem Go.on {S S' : State} (k : ∀ t, Steps p.tables e below S' t → Steps p.tables e below S t) (h : Go p e below W S') : Go p e below W S := by
  obtain ⟨U, h1, h2⟩ := h; exact ⟨U, k U h1, h2⟩
/-- what a body must leave -/
def Wd (s : State) (below : List Frame) (Q : Option Value → Heap → List Loc → Prop) (k n : Nat) (U : State) : Prop := U.status = .running ∧ ∃ v, Ended U below (.returned v) ∧ ∃ L, Q v U.heap L ∧ FrameEnd s (.returned v) U L k n
/-- a body's contract: from the heap h0 and the arguments as' it returns as Q says -/
def Con (l : Launch) (Z : State) (h0 : Heap) (y : MethodName) (bytes : ByteArray) (ml : Nat) (ret : Option FieldType) (rm : Room) (as' : Array Value) (Q : Option Value → Heap → List Loc → Prop) : Prop :=
  ∀ ws : List Jvm.Cond, MetFree l y (head1 (Jvm.Cond.code y bytes ml ret :: ws) rm) (fun a U => a = as' ∧ Z.Warmed39 U.vm ∧ U.heap = h0) (fun _ _ _ _ _ => True) (fun _ U o U' => ∃ v L, o = .returned v ∧ Q v U'.heap L ∧ FrameEnd U o U' L rm.cells rm.slots)
/-- it returns V and touches nothing -/
def Pur (V : Option Value) (h0 : Heap) (v : Option Value) (h : Heap) (L : List Loc) : Prop := v = V ∧ L = [] ∧ h = h0
theorem con_of {h0 : Heap} {y : MethodName} {bytes : ByteArray} {ml : Nat} {ret : Option FieldType} {rm : Room} {as' : Array Value} {Q : Option Value → Heap → List Loc → Prop} (hpl : plainFor y = true) {Ls : Array Slot}
    (hef : ∀ m : MethodId, entryFrame m as' ml = mkF m 0 Ls [])
    (body : ∀ (p : Program) (e : Env) (s : State) (m : MethodId) (below : List Frame) (meth : Method) (c : Code) (s₁ : State), p.tables.exec = Jvm.exec → Z.Warmed39 s.vm → c.code = bytes → c.maxLocals = ml → meth.sig.returnType = ret → meth.locks = false → meth.name = y.name → s.vm.findClass y.cls = some m.cls →
      Stand p l e rm s m as' below meth c s₁ [] 0 0 → s₁.heap = h0 → Go p e below (Wd s below Q rm.cells rm.slots) (s₁.setTop (mkF m 0 Ls []))) : Con l Z h0 y bytes ml ret rm as' Q := by
  intro ws
  refine MetFree.of_bodySF hpl hisR ?_
  intro p e s m args below meth c s₁ Bd hml0 hP hK
  obtain ⟨rfl, hZ, hh⟩ := hP
  obtain ⟨U, h1, h2, v, h3, L, h4, h5⟩ := body p e s m below meth c s₁ Bd.exec hZ Bd.bytes hml0 Bd.returns Bd.notSynchronized (name_of_methodNamed Bd.named Bd.method).1 (findClass_of_methodNamed Bd.named) (Stand.of_body Bd) (by rw [← hh, Bd.state]; rfl)
  rw [← hef] at h1
  exact ⟨U, _, h1, h2, h3, v, L, rfl, h4, h5⟩
theorem g_leave (X : Stand p l e R s m args below meth c T locs cells slots) {v : Option Value} (hv : meth.sig.returnType = none → v = none) (hlk : meth.locks = false) {S : State} {Q : Option Value → Heap → List Loc → Prop} {k n : Nat}
    (st : ∀ fs, (∀ (f : JFrame) (acts : List Action), f.method = m → f.locked = none → f.entered = [] → (doReturn e (T.setTop f) acts v).1 = T.setFrames fs) → Steps p.tables e below S (T.setFrames fs))
    (hQ : Q v T.heap locs) (hk : cells ≤ k) (hn : slots ≤ n) : Go p e below (Wd s below Q k n) S := by
  obtain ⟨fs, hr, hrun, hended, hW, hsame⟩ := X.leave (v := v) hv hlk
  exact ⟨_, st fs hr, hrun, v, hended, locs, hQ, ⟨_, rfl⟩, hW, hsame.mono hk hn⟩
section Leaves
variable {Q : Option Value → Heap → List Loc → Prop} {k n : Nat}
theorem g_retZ (X : Stand p l e R s m args below meth c T locs cells slots) (hx : p.tables.exec = Jvm.exec) {t : FieldType} {z : Int32} (hret : meth.sig.returnType = some t) (hlk : meth.locks = false) (hd : decode c.code pc = .ok (.ireturn, 1)) (ht : t = .int ∨ t = .boolean ∨ t = .byte ∨ t = .char ∨ t = .short) (hn' : narrow t (.int z) = .int z)
    (hQ : Q (some (.int z)) T.heap locs) (hk : cells ≤ k) (hn : slots ≤ n) : Go p e below (Wd s below Q k n) (T.setTop (mkF m pc Ls (.int z :: St))) :=
  g_leave X (fun h => by rw [hret] at h; cases h) hlk (fun fs hr => retOut X hx hret hn' (Or.inl ⟨rfl, ht, z, rfl⟩) hd hr) hQ hk hn
theorem g_retI (X : Stand p l e R s m args below meth c T locs cells slots) (hx : p.tables.exec = Jvm.exec) {z : Int32} (hret : meth.sig.returnType = some .int) (hlk : meth.locks = false) (hd : decode c.code pc = .ok (.ireturn, 1))
    (hQ : Q (some (.int z)) T.heap locs) (hk : cells ≤ k) (hn : slots ≤ n) : Go p e below (Wd s below Q k n) (T.setTop (mkF m pc Ls (.int z :: St))) :=
  g_retZ X hx hret hlk hd (Or.inl rfl) rfl hQ hk hn
theorem g_retB (X : Stand p l e R s m args below meth c T locs cells slots) (hx : p.tables.exec = Jvm.exec) {z : Int32} (hret : meth.sig.returnType = some .boolean) (hlk : meth.locks = false) (hd : decode c.code pc = .ok (.ireturn, 1)) (hz : z = 0 ∨ z = 1)
    (hQ : Q (some (.int z)) T.heap locs) (hk : cells ≤ k) (hn : slots ≤ n) : Go p e below (Wd s below Q k n) (T.setTop (mkF m pc Ls (.int z :: St))) :=
  g_retZ X hx hret hlk hd (Or.inr (Or.inl rfl)) (by rcases hz with rfl | rfl <;> rfl) hQ hk hn
theorem g_retJ (X : Stand p l e R s m args below meth c T locs cells slots) (hx : p.tables.exec = Jvm.exec) {z : Int64} (hret : meth.sig.returnType = some .long) (hlk : meth.locks = false) (hd : decode c.code pc = .ok (.lreturn, 1))
    (hQ : Q (some (.long z)) T.heap locs) (hk : cells ≤ k) (hn : slots ≤ n) : Go p e below (Wd s below Q k n) (T.setTop (mkF m pc Ls (.long z :: St))) :=
  g_leave X (fun h => by rw [hret] at h; cases h) hlk (fun fs hr => retOut X hx hret rfl (Or.inr (Or.inl ⟨rfl, rfl, z, rfl⟩)) hd hr) hQ hk hn
theorem g_retA (X : Stand p l e R s m args below meth c T locs cells slots) (hx : p.tables.exec = Jvm.exec) {t : FieldType} {w : Value} (hret : meth.sig.returnType = some t) (hlk : meth.locks = false) (hd : decode c.code pc = .ok (.areturn, 1)) (ht : t.isReference = true) (hw : w.isRef = true) (hn' : narrow t w = w)
    (hQ : Q (some w) T.heap locs) (hk : cells ≤ k) (hn : slots ≤ n) : Go p e below (Wd s below Q k n) (T.setTop (mkF m pc Ls (w :: St))) :=
  g_leave X (fun h => by rw [hret] at h; cases h) hlk (fun fs hr => retOut X hx hret hn' (Or.inr (Or.inr (Or.inr (Or.inr ⟨rfl, ht, hw⟩)))) hd hr) hQ hk hn
theorem g_retV (X : Stand p l e R s m args below meth c T locs cells slots) (hx : p.tables.exec = Jvm.exec) (hret : meth.sig.returnType = none) (hlk : meth.locks = false) (hd : decode c.code pc = .ok (.return_, 1))
    (hQ : Q none T.heap locs) (hk : cells ≤ k) (hn : slots ≤ n) : Go p e below (Wd s below Q k n) (T.setTop (mkF m pc Ls [])) :=
  g_leave X (fun _ => rfl) hlk (fun fs hr => X.returnOut hx hret hd hr) hQ hk hn
end Leaves
section Plain
theorem g_iload (X : Stand p l e R s m args below meth c T locs cells slots) (hx : p.tables.exec = Jvm.exec) {k : Nat} {v : Int32} (hd : decode c.code pc = .ok (.iload k, 2)) (hl : Ls[k]? = some (.val (.int v))) (hq : pc + 2 = q) (G : Go p e below W (T.setTop (mkF m q Ls (.int v :: St)))) : Go p e below W (T.setTop (mkF m pc Ls St)) := by
  subst hq; exact G.on fun t k' => XS.iload X.here hx rfl hd hl k'
theorem g_lload (X : Stand p l e R s m args below meth c T locs cells slots) (hx : p.tables.exec = Jvm.exec) {k : Nat} {v : Int64} (hd : decode c.code pc = .ok (.lload k, 2)) (hl : Ls[k]? = some (.val (.long v))) (hq : pc + 2 = q) (G : Go p e below W (T.setTop (mkF m q Ls (.long v :: St)))) : Go p e below W (T.setTop (mkF m pc Ls St)) := by
  subst hq; exact G.on fun t k' => XS.lload X.here hx rfl hd hl k'
theorem g_aload (X : Stand p l e R s m args below meth c T locs cells slots) (hx : p.tables.exec = Jvm.exec) {k : Nat} {v : Value} (hd : decode c.code pc = .ok (.aload k, 2)) (hl : Ls[k]? = some (.val v)) (hv : v.isRef = true) (hq : pc + 2 = q) (G : Go p e below W (T.setTop (mkF m q Ls (v :: St)))) : Go p e below W (T.setTop (mkF m pc Ls St)) := by
  subst hq; exact G.on fun t k' => XS.aload X.here hx rfl hd hl hv k'
theorem g_istore (X : Stand p l e R s m args below meth c T locs cells slots) (hx : p.tables.exec = Jvm.exec) {k : Nat} {x : Int32} {L' : Array Slot} (hd : decode c.code pc = .ok (.istore k, 2)) (hl : storeLocals Ls k (.int x) = some L') (hq : pc + 2 = q) (G : Go p e below W (T.setTop (mkF m q L' St))) : Go p e below W (T.setTop (mkF m pc Ls (.int x :: St))) := by
  subst hq; exact G.on fun t k' => XS.istore X.here hx rfl hd rfl hl k'
theorem g_lstore (X : Stand p l e R s m args below meth c T locs cells slots) (hx : p.tables.exec = Jvm.exec) {k : Nat} {x : Int64} {L' : Array Slot} (hd : decode c.code pc = .ok (.lstore k, 2)) (hl : storeLocals Ls k (.long x) = some L') (hq : pc + 2 = q) (G : Go p e below W (T.setTop (mkF m q L' St))) : Go p e below W (T.setTop (mkF m pc Ls (.long x :: St))) := by
  subst hq; exact G.on fun t k' => XS.lstore X.here hx rfl hd rfl hl k'
theorem g_astore (X : Stand p l e R s m args below meth c T locs cells slots) (hx : p.tables.exec = Jvm.exec) {k : Nat} {x : Value} {L' : Array Slot} (hd : decode c.code pc = .ok (.astore k, 2)) (hv : x.isRef = true) (hl : storeLocals Ls k x = some L') (hq : pc + 2 = q) (G : Go p e below W (T.setTop (mkF m q L' St))) : Go p e below W (T.setTop (mkF m pc Ls (x :: St))) := by
  subst hq; exact G.on fun t k' => XS.astore X.here hx rfl hd rfl hv hl k'
theorem g_iloadN (X : Stand p l e R s m args below meth c T locs cells slots) (hx : p.tables.exec = Jvm.exec) {k : Fin 4} {v : Int32} (hd : decode c.code pc = .ok (.iload_n k, 1)) (hl : Ls[k.val]? = some (.val (.int v))) (hq : pc + 1 = q) (G : Go p e below W (T.setTop (mkF m q Ls (.int v :: St)))) : Go p e below W (T.setTop (mkF m pc Ls St)) := by
  subst hq; exact G.on fun t k' => XS.iloadN X.here hx rfl hd hl k'
theorem g_lloadN (X : Stand p l e R s m args below meth c T locs cells slots) (hx : p.tables.exec = Jvm.exec) {k : Fin 4} {v : Int64} (hd : decode c.code pc = .ok (.lload_n k, 1)) (hl : Ls[k.val]? = some (.val (.long v))) (hq : pc + 1 = q) (G : Go p e below W (T.setTop (mkF m q Ls (.long v :: St)))) : Go p e below W (T.setTop (mkF m pc Ls St)) := by
  subst hq; exact G.on fun t k' => XS.lloadN X.here hx rfl hd hl k'
theorem g_aloadN (X : Stand p l e R s m args below meth c T locs cells slots) (hx : p.tables.exec = Jvm.exec) {k : Fin 4} {v : Value} (hd : decode c.code pc = .ok (.aload_n k, 1)) (hl : Ls[k.val]? = some (.val v)) (hv : v.isRef = true) (hq : pc + 1 = q) (G : Go p e below W (T.setTop (mkF m q Ls (v :: St)))) : Go p e below W (T.setTop (mkF m pc Ls St)) := by
  subst hq; exact G.on fun t k' => XS.aloadN X.here hx rfl hd hl hv k'
theorem g_istoreN (X : Stand p l e R s m args below meth c T locs cells slots) (hx : p.tables.exec = Jvm.exec) {k : Fin 4} {x : Int32} {L' : Array Slot} (hd : decode c.code pc = .ok (.istore_n k, 1)) (hl : storeLocals Ls k.val (.int x) = some L') (hq : pc + 1 = q) (G : Go p e below W (T.setTop (mkF m q L' St))) : Go p e below W (T.setTop (mkF m pc Ls (.int x :: St))) := by
  subst hq; exact G.on fun t k' => XS.istoreN X.here hx rfl hd rfl hl k'
theorem g_lstoreN (X : Stand p l e R s m args below meth c T locs cells slots) (hx : p.tables.exec = Jvm.exec) {k : Fin 4} {x : Int64} {L' : Array Slot} (hd : decode c.code pc = .ok (.lstore_n k, 1)) (hl : storeLocals Ls k.val (.long x) = some L') (hq : pc + 1 = q) (G : Go p e below W (T.setTop (mkF m q L' St))) : Go p e below W (T.setTop (mkF m pc Ls (.long x :: St))) := by
  subst hq; exact G.on fun t k' => XS.lstoreN X.here hx rfl hd rfl hl k'
theorem g_astoreN (X : Stand p l e R s m args below meth c T locs cells slots) (hx : p.tables.exec = Jvm.exec) {k : Fin 4} {x : Value} {L' : Array Slot} (hd : decode c.code pc = .ok (.astore_n k, 1)) (hv : x.isRef = true) (hl : storeLocals Ls k.val x = some L') (hq : pc + 1 = q) (G : Go p e below W (T.setTop (mkF m q L' St))) : Go p e below W (T.setTop (mkF m pc Ls (x :: St))) := by
  subst hq; exact G.on fun t k' => XS.astoreN X.here hx rfl hd rfl hv hl k'
theorem g_iconst (X : Stand p l e R s m args below meth c T locs cells slots) (hx : p.tables.exec = Jvm.exec) {i : Int} {n : Int32} (hd : decode c.code pc = .ok (.iconst i, 1)) (hn : Int32.ofInt i = n) (hq : pc + 1 = q) (G : Go p e below W (T.setTop (mkF m q Ls (.int n :: St)))) : Go p e below W (T.setTop (mkF m pc Ls St)) := by
  subst hq; subst hn; exact G.on fun t k' => XS.iconst X.here hx rfl hd k'
theorem g_bipush (X : Stand p l e R s m args below meth c T locs cells slots) (hx : p.tables.exec = Jvm.exec) {i : Int} {n : Int32} (hd : decode c.code pc = .ok (.bipush i, 2)) (hn : (Int8.ofInt i).toInt32 = n) (hq : pc + 2 = q) (G : Go p e below W (T.setTop (mkF m q Ls (.int n :: St)))) : Go p e below W (T.setTop (mkF m pc Ls St)) := by
  subst hq; subst hn; exact G.on fun t k' => XS.bipush X.here hx rfl hd k'
theorem g_sipush (X : Stand p l e R s m args below meth c T locs cells slots) (hx : p.tables.exec = Jvm.exec) {i : Int} {n : Int32} (hd : decode c.code pc = .ok (.sipush i, 3)) (hn : (Int16.ofInt i).toInt32 = n) (hq : pc + 3 = q) (G : Go p e below W (T.setTop (mkF m q Ls (.int n :: St)))) : Go p e below W (T.setTop (mkF m pc Ls St)) := by
  subst hq; subst hn; exact G.on fun t k' => XS.sipush X.here hx rfl hd k'
theorem g_lconst (X : Stand p l e R s m args below meth c T locs cells slots) (hx : p.tables.exec = Jvm.exec) {i : Fin 2} {n : Int64} (hd : decode c.code pc = .ok (.lconst i, 1)) (hn : Int64.ofNat i = n) (hq : pc + 1 = q) (G : Go p e below W (T.setTop (mkF m q Ls (.long n :: St)))) : Go p e below W (T.setTop (mkF m pc Ls St)) := by
  subst hq; subst hn; exact G.on fun t k' => XS.lconst X.here hx rfl hd k'
theorem g_aconst_null (X : Stand p l e R s m args below meth c T locs cells slots) (hx : p.tables.exec = Jvm.exec)  (hd : decode c.code pc = .ok (.aconst_null, 1)) (hq : pc + 1 = q) (G : Go p e below W (T.setTop (mkF m q Ls (.null :: St)))) : Go p e below W (T.setTop (mkF m pc Ls St)) := by
  subst hq; exact G.on fun t k' => XS.aconstNull X.here hx rfl hd k'
theorem g_iadd (X : Stand p l e R s m args below meth c T locs cells slots) (hx : p.tables.exec = Jvm.exec) {x y z : Int32} (hd : decode c.code pc = .ok (.iadd, 1)) (hz : x + y = z) (hq : pc + 1 = q) (G : Go p e below W (T.setTop (mkF m q Ls (.int z :: St)))) : Go p e below W (T.setTop (mkF m pc Ls (.int y :: .int x :: St))) := by
  subst hq; subst hz; exact G.on fun t k' => XS.iadd X.here hx rfl hd rfl k'
theorem g_isub (X : Stand p l e R s m args below meth c T locs cells slots) (hx : p.tables.exec = Jvm.exec) {x y z : Int32} (hd : decode c.code pc = .ok (.isub, 1)) (hz : x - y = z) (hq : pc + 1 = q) (G : Go p e below W (T.setTop (mkF m q Ls (.int z :: St)))) : Go p e below W (T.setTop (mkF m pc Ls (.int y :: .int x :: St))) := by
  subst hq; subst hz; exact G.on fun t k' => XS.isub X.here hx rfl hd rfl k'
theorem g_imul (X : Stand p l e R s m args below meth c T locs cells slots) (hx : p.tables.exec = Jvm.exec) {x y z : Int32} (hd : decode c.code pc = .ok (.imul, 1)) (hz : x * y = z) (hq : pc + 1 = q) (G : Go p e below W (T.setTop (mkF m q Ls (.int z :: St)))) : Go p e below W (T.setTop (mkF m pc Ls (.int y :: .int x :: St))) := by
  subst hq; subst hz; exact G.on fun t k' => XS.imul X.here hx rfl hd rfl k'
theorem g_iand (X : Stand p l e R s m args below meth c T locs cells slots) (hx : p.tables.exec = Jvm.exec) {x y z : Int32} (hd : decode c.code pc = .ok (.iand, 1)) (hz : x &&& y = z) (hq : pc + 1 = q) (G : Go p e below W (T.setTop (mkF m q Ls (.int z :: St)))) : Go p e below W (T.setTop (mkF m pc Ls (.int y :: .int x :: St))) := by
  subst hq; subst hz; exact G.on fun t k' => XS.iand X.here hx rfl hd rfl k'
theorem g_ior (X : Stand p l e R s m args below meth c T locs cells slots) (hx : p.tables.exec = Jvm.exec) {x y z : Int32} (hd : decode c.code pc = .ok (.ior, 1)) (hz : x ||| y = z) (hq : pc + 1 = q) (G : Go p e below W (T.setTop (mkF m q Ls (.int z :: St)))) : Go p e below W (T.setTop (mkF m pc Ls (.int y :: .int x :: St))) := by
  subst hq; subst hz; exact G.on fun t k' => XS.ior X.here hx rfl hd rfl k'
theorem g_ixor (X : Stand p l e R s m args below meth c T locs cells slots) (hx : p.tables.exec = Jvm.exec) {x y z : Int32} (hd : decode c.code pc = .ok (.ixor, 1)) (hz : x ^^^ y = z) (hq : pc + 1 = q) (G : Go p e below W (T.setTop (mkF m q Ls (.int z :: St)))) : Go p e below W (T.setTop (mkF m pc Ls (.int y :: .int x :: St))) := by
  subst hq; subst hz; exact G.on fun t k' => XS.ixor X.here hx rfl hd rfl k'
theorem g_ishl (X : Stand p l e R s m args below meth c T locs cells slots) (hx : p.tables.exec = Jvm.exec) {x y z : Int32} (hd : decode c.code pc = .ok (.ishl, 1)) (hz : x <<< (y &&& 31) = z) (hq : pc + 1 = q) (G : Go p e below W (T.setTop (mkF m q Ls (.int z :: St)))) : Go p e below W (T.setTop (mkF m pc Ls (.int y :: .int x :: St))) := by
  subst hq; subst hz; exact G.on fun t k' => XS.ishl X.here hx rfl hd rfl k'
theorem g_ishr (X : Stand p l e R s m args below meth c T locs cells slots) (hx : p.tables.exec = Jvm.exec) {x y z : Int32} (hd : decode c.code pc = .ok (.ishr, 1)) (hz : x >>> (y &&& 31) = z) (hq : pc + 1 = q) (G : Go p e below W (T.setTop (mkF m q Ls (.int z :: St)))) : Go p e below W (T.setTop (mkF m pc Ls (.int y :: .int x :: St))) := by
  subst hq; subst hz; exact G.on fun t k' => XS.ishr X.here hx rfl hd rfl k'
theorem g_iushr (X : Stand p l e R s m args below meth c T locs cells slots) (hx : p.tables.exec = Jvm.exec) {x y z : Int32} (hd : decode c.code pc = .ok (.iushr, 1)) (hz : (x.toUInt32 >>> (y &&& 31).toUInt32).toInt32 = z) (hq : pc + 1 = q) (G : Go p e below W (T.setTop (mkF m q Ls (.int z :: St)))) : Go p e below W (T.setTop (mkF m pc Ls (.int y :: .int x :: St))) := by
  subst hq; subst hz; exact G.on fun t k' => XS.iushr X.here hx rfl hd rfl k'
theorem g_irem (X : Stand p l e R s m args below meth c T locs cells slots) (hx : p.tables.exec = Jvm.exec) {x y z : Int32} (hd : decode c.code pc = .ok (.irem, 1)) (hy : y ≠ 0) (hz : x % y = z) (hq : pc + 1 = q) (G : Go p e below W (T.setTop (mkF m q Ls (.int z :: St)))) : Go p e below W (T.setTop (mkF m pc Ls (.int y :: .int x :: St))) := by
  subst hq; subst hz; exact G.on fun t k' => iremM X hx rfl hd rfl hy k'
theorem g_ladd (X : Stand p l e R s m args below meth c T locs cells slots) (hx : p.tables.exec = Jvm.exec) {x y z : Int64} (hd : decode c.code pc = .ok (.ladd, 1)) (hz : x + y = z) (hq : pc + 1 = q) (G : Go p e below W (T.setTop (mkF m q Ls (.long z :: St)))) : Go p e below W (T.setTop (mkF m pc Ls (.long y :: .long x :: St))) := by
  subst hq; subst hz; exact G.on fun t k' => XS.ladd X.here hx rfl hd rfl k'
theorem g_lsub (X : Stand p l e R s m args below meth c T locs cells slots) (hx : p.tables.exec = Jvm.exec) {x y z : Int64} (hd : decode c.code pc = .ok (.lsub, 1)) (hz : x - y = z) (hq : pc + 1 = q) (G : Go p e below W (T.setTop (mkF m q Ls (.long z :: St)))) : Go p e below W (T.setTop (mkF m pc Ls (.long y :: .long x :: St))) := by
  subst hq; subst hz; exact G.on fun t k' => XS.lsub X.here hx rfl hd rfl k'
theorem g_land (X : Stand p l e R s m args below meth c T locs cells slots) (hx : p.tables.exec = Jvm.exec) {x y z : Int64} (hd : decode c.code pc = .ok (.land, 1)) (hz : x &&& y = z) (hq : pc + 1 = q) (G : Go p e below W (T.setTop (mkF m q Ls (.long z :: St)))) : Go p e below W (T.setTop (mkF m pc Ls (.long y :: .long x :: St))) := by
  subst hq; subst hz; exact G.on fun t k' => XS.land X.here hx rfl hd rfl k'
theorem g_lor (X : Stand p l e R s m args below meth c T locs cells slots) (hx : p.tables.exec = Jvm.exec) {x y z : Int64} (hd : decode c.code pc = .ok (.lor, 1)) (hz : x ||| y = z) (hq : pc + 1 = q) (G : Go p e below W (T.setTop (mkF m q Ls (.long z :: St)))) : Go p e below W (T.setTop (mkF m pc Ls (.long y :: .long x :: St))) := by
  subst hq; subst hz; exact G.on fun t k' => XS.lor X.here hx rfl hd rfl k'
theorem g_lxor (X : Stand p l e R s m args below meth c T locs cells slots) (hx : p.tables.exec = Jvm.exec) {x y z : Int64} (hd : decode c.code pc = .ok (.lxor, 1)) (hz : x ^^^ y = z) (hq : pc + 1 = q) (G : Go p e below W (T.setTop (mkF m q Ls (.long z :: St)))) : Go p e below W (T.setTop (mkF m pc Ls (.long y :: .long x :: St))) := by
  subst hq; subst hz; exact G.on fun t k' => XS.lxor X.here hx rfl hd rfl k'
theorem g_lshl (X : Stand p l e R s m args below meth c T locs cells slots) (hx : p.tables.exec = Jvm.exec) {x z : Int64} {y : Int32} (hd : decode c.code pc = .ok (.lshl, 1)) (hz : x <<< (y &&& 0x3f).toInt64 = z) (hq : pc + 1 = q) (G : Go p e below W (T.setTop (mkF m q Ls (.long z :: St)))) : Go p e below W (T.setTop (mkF m pc Ls (.int y :: .long x :: St))) := by
  subst hq; subst hz; exact G.on fun t k' => XS.lshl X.here hx rfl hd rfl k'
theorem g_lshr (X : Stand p l e R s m args below meth c T locs cells slots) (hx : p.tables.exec = Jvm.exec) {x z : Int64} {y : Int32} (hd : decode c.code pc = .ok (.lshr, 1)) (hz : x >>> (y &&& 0x3f).toInt64 = z) (hq : pc + 1 = q) (G : Go p e below W (T.setTop (mkF m q Ls (.long z :: St)))) : Go p e below W (T.setTop (mkF m pc Ls (.int y :: .long x :: St))) := by
  subst hq; subst hz; exact G.on fun t k' => XS.lshr X.here hx rfl hd rfl k'
theorem g_lushr (X : Stand p l e R s m args below meth c T locs cells slots) (hx : p.tables.exec = Jvm.exec) {x z : Int64} {y : Int32} (hd : decode c.code pc = .ok (.lushr, 1)) (hz : (x.toUInt64 >>> (y &&& 0x3f).toInt64.toUInt64).toInt64 = z) (hq : pc + 1 = q) (G : Go p e below W (T.setTop (mkF m q Ls (.long z :: St)))) : Go p e below W (T.setTop (mkF m pc Ls (.int y :: .long x :: St))) := by
  subst hq; subst hz; exact G.on fun t k' => XS.lushr X.here hx rfl hd rfl k'
theorem g_lcmp (X : Stand p l e R s m args below meth c T locs cells slots) (hx : p.tables.exec = Jvm.exec) {x y : Int64} {z : Int32} (hd : decode c.code pc = .ok (.lcmp, 1)) (hz : lcmpW x y = z) (hq : pc + 1 = q) (G : Go p e below W (T.setTop (mkF m q Ls (.int z :: St)))) : Go p e below W (T.setTop (mkF m pc Ls (.long y :: .long x :: St))) := by
  subst hq; subst hz; exact G.on fun t k' => XS.lcmp X.here hx rfl hd rfl k'
theorem g_i2l (X : Stand p l e R s m args below meth c T locs cells slots) (hx : p.tables.exec = Jvm.exec) {x : Int32} {z : Int64} (hd : decode c.code pc = .ok (.i2l, 1)) (hz : x.toInt64 = z) (hq : pc + 1 = q) (G : Go p e below W (T.setTop (mkF m q Ls (.long z :: St)))) : Go p e below W (T.setTop (mkF m pc Ls (.int x :: St))) := by
  subst hq; subst hz; exact G.on fun t k' => XS.i2l X.here hx rfl hd rfl k'
theorem g_l2i (X : Stand p l e R s m args below meth c T locs cells slots) (hx : p.tables.exec = Jvm.exec) {x : Int64} {z : Int32} (hd : decode c.code pc = .ok (.l2i, 1)) (hz : x.toInt32 = z) (hq : pc + 1 = q) (G : Go p e below W (T.setTop (mkF m q Ls (.int z :: St)))) : Go p e below W (T.setTop (mkF m pc Ls (.long x :: St))) := by
  subst hq; subst hz; exact G.on fun t k' => XS.l2i X.here hx rfl hd rfl k'
theorem g_i2b (X : Stand p l e R s m args below meth c T locs cells slots) (hx : p.tables.exec = Jvm.exec) {x : Int32} {z : Int32} (hd : decode c.code pc = .ok (.i2b, 1)) (hz : x.toInt8.toInt32 = z) (hq : pc + 1 = q) (G : Go p e below W (T.setTop (mkF m q Ls (.int z :: St)))) : Go p e below W (T.setTop (mkF m pc Ls (.int x :: St))) := by
  subst hq; subst hz; exact G.on fun t k' => XS.i2b X.here hx rfl hd rfl k'
theorem g_i2c (X : Stand p l e R s m args below meth c T locs cells slots) (hx : p.tables.exec = Jvm.exec) {x : Int32} {z : Int32} (hd : decode c.code pc = .ok (.i2c, 1)) (hz : x.toUInt32.toUInt16.toUInt32.toInt32 = z) (hq : pc + 1 = q) (G : Go p e below W (T.setTop (mkF m q Ls (.int z :: St)))) : Go p e below W (T.setTop (mkF m pc Ls (.int x :: St))) := by
  subst hq; subst hz; exact G.on fun t k' => XS.i2c X.here hx rfl hd rfl k'
theorem g_ineg (X : Stand p l e R s m args below meth c T locs cells slots) (hx : p.tables.exec = Jvm.exec) {x : Int32} {z : Int32} (hd : decode c.code pc = .ok (.ineg, 1)) (hz : -x = z) (hq : pc + 1 = q) (G : Go p e below W (T.setTop (mkF m q Ls (.int z :: St)))) : Go p e below W (T.setTop (mkF m pc Ls (.int x :: St))) := by
  subst hq; subst hz; exact G.on fun t k' => XS.ineg X.here hx rfl hd rfl k'
theorem g_dup (X : Stand p l e R s m args below meth c T locs cells slots) (hx : p.tables.exec = Jvm.exec) {x : Value} (hd : decode c.code pc = .ok (.dup, 1)) (hc : x.category = 1) (hq : pc + 1 = q) (G : Go p e below W (T.setTop (mkF m q Ls (x :: x :: St)))) : Go p e below W (T.setTop (mkF m pc Ls (x :: St))) := by
  subst hq; exact G.on fun t k' => XS.dup X.here hx rfl hd rfl hc k'
theorem g_pop (X : Stand p l e R s m args below meth c T locs cells slots) (hx : p.tables.exec = Jvm.exec) {x : Value} (hd : decode c.code pc = .ok (.pop, 1)) (hc : x.category = 1) (hq : pc + 1 = q) (G : Go p e below W (T.setTop (mkF m q Ls St))) : Go p e below W (T.setTop (mkF m pc Ls (x :: St))) := by
  subst hq; exact G.on fun t k' => XS.pop X.here hx rfl hd rfl hc k'
theorem g_dup_x1 (X : Stand p l e R s m args below meth c T locs cells slots) (hx : p.tables.exec = Jvm.exec) {x y : Value} (hd : decode c.code pc = .ok (.dup_x1, 1)) (hc : x.category = 1) (hc2 : y.category = 1) (hq : pc + 1 = q) (G : Go p e below W (T.setTop (mkF m q Ls (x :: y :: x :: St)))) : Go p e below W (T.setTop (mkF m pc Ls (x :: y :: St))) := by
  subst hq; exact G.on fun t k' => XS.dupX1 X.here hx rfl hd rfl hc hc2 k'
theorem g_iinc (X : Stand p l e R s m args below meth c T locs cells slots) (hx : p.tables.exec = Jvm.exec) {k : Nat} {cst : Int} {x z : Int32} {L' : Array Slot} (hd : decode c.code pc = .ok (.iinc k cst, 3)) (hl : Ls[k]? = some (.val (.int x))) (hz : x + Int32.ofInt cst = z) (hl' : storeLocals Ls k (.int z) = some L') (hq : pc + 3 = q) (G : Go p e below W (T.setTop (mkF m q L' St))) : Go p e below W (T.setTop (mkF m pc Ls St)) := by
  subst hq; subst hz; exact G.on fun t k' => XS.iinc X.here hx rfl hd hl hl' k'
theorem g_goto (X : Stand p l e R s m args below meth c T locs cells slots) (hx : p.tables.exec = Jvm.exec) {o : Int} (hd : decode c.code pc = .ok (.goto o, 3)) (ho : 0 ≤ (pc : Int) + o) (hq : ((pc : Int) + o).toNat = q) (G : Go p e below W (T.setTop (mkF m q Ls St))) : Go p e below W (T.setTop (mkF m pc Ls St)) :=
  G.on fun t k' => XS.goto X.here hx rfl rfl hd ho hq k'
end Plain
section Branches
variable {q2 : Nat}
theorem g_icmp (X : Stand p l e R s m args below meth c T locs cells slots) (hx : p.tables.exec = Jvm.exec) {cd : ClassFile.Cond} {x y : Int32} {o : Int} (hd : decode c.code pc = .ok (.if_icmp cd o, 3)) (ho : 0 ≤ (pc : Int) + o) (hq : ((pc : Int) + o).toNat = q) (hq2 : pc + 3 = q2)
    (Gy : if_icmp.holds cd x y = true → Go p e below W (T.setTop (mkF m q Ls St))) (Gn : if_icmp.holds cd x y = false → Go p e below W (T.setTop (mkF m q2 Ls St))) : Go p e below W (T.setTop (mkF m pc Ls (.int y :: .int x :: St))) := by
  subst hq2
  cases hc : if_icmp.holds cd x y with
  | true => exact (Gy hc).on fun t k => XS.icmpYes X.here hx rfl rfl hd rfl hc ho hq k
  | false => exact (Gn hc).on fun t k => XS.icmpNo X.here hx rfl hd rfl hc k
theorem g_if0 (X : Stand p l e R s m args below meth c T locs cells slots) (hx : p.tables.exec = Jvm.exec) {cd : ClassFile.Cond} {x : Int32} {o : Int} (hd : decode c.code pc = .ok (.ifCond cd o, 3)) (ho : 0 ≤ (pc : Int) + o) (hq : ((pc : Int) + o).toNat = q) (hq2 : pc + 3 = q2)
    (Gy : if_icmp.holds cd x 0 = true → Go p e below W (T.setTop (mkF m q Ls St))) (Gn : if_icmp.holds cd x 0 = false → Go p e below W (T.setTop (mkF m q2 Ls St))) : Go p e below W (T.setTop (mkF m pc Ls (.int x :: St))) := by
  subst hq2
  cases hc : if_icmp.holds cd x 0 with
  | true => exact (Gy hc).on fun t k => XS.ifYes X.here hx rfl rfl hd rfl ((if0 _ _).trans hc) ho hq k
  | false => exact (Gn hc).on fun t k => XS.ifNo X.here hx rfl hd rfl ((if0 _ _).trans hc) k
theorem g_icmp_eq (X : Stand p l e R s m args below meth c T locs cells slots) (hx : p.tables.exec = Jvm.exec) {x y : Int32} {o : Int} (hd : decode c.code pc = .ok (.if_icmp .eq o, 3)) (ho : 0 ≤ (pc : Int) + o) (hq : ((pc : Int) + o).toNat = q) (hq2 : pc + 3 = q2) (Gy : x = y → Go p e below W (T.setTop (mkF m q Ls St))) (Gn : ¬ x = y → Go p e below W (T.setTop (mkF m q2 Ls St))) : Go p e below W (T.setTop (mkF m pc Ls (.int y :: .int x :: St))) :=
  g_icmp X hx hd ho hq hq2 (fun h => Gy (by simpa [if_icmp.holds] using h)) (fun h => Gn (by simpa [if_icmp.holds] using h))
theorem g_if_eq (X : Stand p l e R s m args below meth c T locs cells slots) (hx : p.tables.exec = Jvm.exec) {x : Int32} {o : Int} (hd : decode c.code pc = .ok (.ifCond .eq o, 3)) (ho : 0 ≤ (pc : Int) + o) (hq : ((pc : Int) + o).toNat = q) (hq2 : pc + 3 = q2) (Gy : x = (0 : Int32) → Go p e below W (T.setTop (mkF m q Ls St))) (Gn : ¬ x = (0 : Int32) → Go p e below W (T.setTop (mkF m q2 Ls St))) : Go p e below W (T.setTop (mkF m pc Ls (.int x :: St))) :=
  g_if0 X hx hd ho hq hq2 (fun h => Gy (by simpa [if_icmp.holds] using h)) (fun h => Gn (by simpa [if_icmp.holds] using h))
theorem g_icmp_ne (X : Stand p l e R s m args below meth c T locs cells slots) (hx : p.tables.exec = Jvm.exec) {x y : Int32} {o : Int} (hd : decode c.code pc = .ok (.if_icmp .ne o, 3)) (ho : 0 ≤ (pc : Int) + o) (hq : ((pc : Int) + o).toNat = q) (hq2 : pc + 3 = q2) (Gy : ¬ x = y → Go p e below W (T.setTop (mkF m q Ls St))) (Gn : x = y → Go p e below W (T.setTop (mkF m q2 Ls St))) : Go p e below W (T.setTop (mkF m pc Ls (.int y :: .int x :: St))) :=
  g_icmp X hx hd ho hq hq2 (fun h => Gy (by simpa [if_icmp.holds] using h)) (fun h => Gn (by simpa [if_icmp.holds] using h))
theorem g_if_ne (X : Stand p l e R s m args below meth c T locs cells slots) (hx : p.tables.exec = Jvm.exec) {x : Int32} {o : Int} (hd : decode c.code pc = .ok (.ifCond .ne o, 3)) (ho : 0 ≤ (pc : Int) + o) (hq : ((pc : Int) + o).toNat = q) (hq2 : pc + 3 = q2) (Gy : ¬ x = (0 : Int32) → Go p e below W (T.setTop (mkF m q Ls St))) (Gn : x = (0 : Int32) → Go p e below W (T.setTop (mkF m q2 Ls St))) : Go p e below W (T.setTop (mkF m pc Ls (.int x :: St))) :=
  g_if0 X hx hd ho hq hq2 (fun h => Gy (by simpa [if_icmp.holds] using h)) (fun h => Gn (by simpa [if_icmp.holds] using h))
theorem g_icmp_lt (X : Stand p l e R s m args below meth c T locs cells slots) (hx : p.tables.exec = Jvm.exec) {x y : Int32} {o : Int} (hd : decode c.code pc = .ok (.if_icmp .lt o, 3)) (ho : 0 ≤ (pc : Int) + o) (hq : ((pc : Int) + o).toNat = q) (hq2 : pc + 3 = q2) (Gy : x < y → Go p e below W (T.setTop (mkF m q Ls St))) (Gn : ¬ x < y → Go p e below W (T.setTop (mkF m q2 Ls St))) : Go p e below W (T.setTop (mkF m pc Ls (.int y :: .int x :: St))) :=
  g_icmp X hx hd ho hq hq2 (fun h => Gy (by simpa [if_icmp.holds] using h)) (fun h => Gn (by simpa [if_icmp.holds] using h))
theorem g_if_lt (X : Stand p l e R s m args below meth c T locs cells slots) (hx : p.tables.exec = Jvm.exec) {x : Int32} {o : Int} (hd : decode c.code pc = .ok (.ifCond .lt o, 3)) (ho : 0 ≤ (pc : Int) + o) (hq : ((pc : Int) + o).toNat = q) (hq2 : pc + 3 = q2) (Gy : x < (0 : Int32) → Go p e below W (T.setTop (mkF m q Ls St))) (Gn : ¬ x < (0 : Int32) → Go p e below W (T.setTop (mkF m q2 Ls St))) : Go p e below W (T.setTop (mkF m pc Ls (.int x :: St))) :=
  g_if0 X hx hd ho hq hq2 (fun h => Gy (by simpa [if_icmp.holds] using h)) (fun h => Gn (by simpa [if_icmp.holds] using h))
theorem g_icmp_ge (X : Stand p l e R s m args below meth c T locs cells slots) (hx : p.tables.exec = Jvm.exec) {x y : Int32} {o : Int} (hd : decode c.code pc = .ok (.if_icmp .ge o, 3)) (ho : 0 ≤ (pc : Int) + o) (hq : ((pc : Int) + o).toNat = q) (hq2 : pc + 3 = q2) (Gy : ¬ x < y → Go p e below W (T.setTop (mkF m q Ls St))) (Gn : x < y → Go p e below W (T.setTop (mkF m q2 Ls St))) : Go p e below W (T.setTop (mkF m pc Ls (.int y :: .int x :: St))) :=
  g_icmp X hx hd ho hq hq2 (fun h => Gy (by simpa [if_icmp.holds] using h)) (fun h => Gn (by simpa [if_icmp.holds] using h))
theorem g_if_ge (X : Stand p l e R s m args below meth c T locs cells slots) (hx : p.tables.exec = Jvm.exec) {x : Int32} {o : Int} (hd : decode c.code pc = .ok (.ifCond .ge o, 3)) (ho : 0 ≤ (pc : Int) + o) (hq : ((pc : Int) + o).toNat = q) (hq2 : pc + 3 = q2) (Gy : ¬ x < (0 : Int32) → Go p e below W (T.setTop (mkF m q Ls St))) (Gn : x < (0 : Int32) → Go p e below W (T.setTop (mkF m q2 Ls St))) : Go p e below W (T.setTop (mkF m pc Ls (.int x :: St))) :=
  g_if0 X hx hd ho hq hq2 (fun h => Gy (by simpa [if_icmp.holds] using h)) (fun h => Gn (by simpa [if_icmp.holds] using h))
theorem g_icmp_gt (X : Stand p l e R s m args below meth c T locs cells slots) (hx : p.tables.exec = Jvm.exec) {x y : Int32} {o : Int} (hd : decode c.code pc = .ok (.if_icmp .gt o, 3)) (ho : 0 ≤ (pc : Int) + o) (hq : ((pc : Int) + o).toNat = q) (hq2 : pc + 3 = q2) (Gy : y < x → Go p e below W (T.setTop (mkF m q Ls St))) (Gn : ¬ y < x → Go p e below W (T.setTop (mkF m q2 Ls St))) : Go p e below W (T.setTop (mkF m pc Ls (.int y :: .int x :: St))) :=
  g_icmp X hx hd ho hq hq2 (fun h => Gy (by simpa [if_icmp.holds] using h)) (fun h => Gn (by simpa [if_icmp.holds] using h))
theorem g_if_gt (X : Stand p l e R s m args below meth c T locs cells slots) (hx : p.tables.exec = Jvm.exec) {x : Int32} {o : Int} (hd : decode c.code pc = .ok (.ifCond .gt o, 3)) (ho : 0 ≤ (pc : Int) + o) (hq : ((pc : Int) + o).toNat = q) (hq2 : pc + 3 = q2) (Gy : (0 : Int32) < x → Go p e below W (T.setTop (mkF m q Ls St))) (Gn : ¬ (0 : Int32) < x → Go p e below W (T.setTop (mkF m q2 Ls St))) : Go p e below W (T.setTop (mkF m pc Ls (.int x :: St))) :=
  g_if0 X hx hd ho hq hq2 (fun h => Gy (by simpa [if_icmp.holds] using h)) (fun h => Gn (by simpa [if_icmp.holds] using h))
theorem g_icmp_le (X : Stand p l e R s m args below meth c T locs cells slots) (hx : p.tables.exec = Jvm.exec) {x y : Int32} {o : Int} (hd : decode c.code pc = .ok (.if_icmp .le o, 3)) (ho : 0 ≤ (pc : Int) + o) (hq : ((pc : Int) + o).toNat = q) (hq2 : pc + 3 = q2) (Gy : ¬ y < x → Go p e below W (T.setTop (mkF m q Ls St))) (Gn : y < x → Go p e below W (T.setTop (mkF m q2 Ls St))) : Go p e below W (T.setTop (mkF m pc Ls (.int y :: .int x :: St))) :=
  g_icmp X hx hd ho hq hq2 (fun h => Gy (by simpa [if_icmp.holds] using h)) (fun h => Gn (by simpa [if_icmp.holds] using h))
theorem g_if_le (X : Stand p l e R s m args below meth c T locs cells slots) (hx : p.tables.exec = Jvm.exec) {x : Int32} {o : Int} (hd : decode c.code pc = .ok (.ifCond .le o, 3)) (ho : 0 ≤ (pc : Int) + o) (hq : ((pc : Int) + o).toNat = q) (hq2 : pc + 3 = q2) (Gy : ¬ (0 : Int32) < x → Go p e below W (T.setTop (mkF m q Ls St))) (Gn : (0 : Int32) < x → Go p e below W (T.setTop (mkF m q2 Ls St))) : Go p e below W (T.setTop (mkF m pc Ls (.int x :: St))) :=
  g_if0 X hx hd ho hq hq2 (fun h => Gy (by simpa [if_icmp.holds] using h)) (fun h => Gn (by simpa [if_icmp.holds] using h))
theorem g_acmpEq (X : Stand p l e R s m args below meth c T locs cells slots) (hx : p.tables.exec = Jvm.exec) {x y : Value} (h1 : x.isRef = true) (h2 : y.isRef = true) {o : Int} (hd : decode c.code pc = .ok (.if_acmp .eq o, 3)) (ho : 0 ≤ (pc : Int) + o) (hq : ((pc : Int) + o).toNat = q) (hq2 : pc + 3 = q2)
    (Gy : x = y → Go p e below W (T.setTop (mkF m q Ls St))) (Gn : ¬ x = y → Go p e below W (T.setTop (mkF m q2 Ls St))) : Go p e below W (T.setTop (mkF m pc Ls (y :: x :: St))) := by
  by_cases hc : x = y
  · exact (Gy hc).on fun t k => Jvm.RoadKit.acmp X hx rfl h1 h2 (pc0 := pc) (same := true) rfl hd rfl (decide_eq_true hc) ho (by simp [acV, hq]) k
  · exact (Gn hc).on fun t k => Jvm.RoadKit.acmp X hx rfl h1 h2 (pc0 := pc) (same := false) rfl hd rfl (decide_eq_false hc) ho (by simp [acV, hq2]) k
theorem g_acmpNe (X : Stand p l e R s m args below meth c T locs cells slots) (hx : p.tables.exec = Jvm.exec) {x y : Value} (h1 : x.isRef = true) (h2 : y.isRef = true) {o : Int} (hd : decode c.code pc = .ok (.if_acmp .ne o, 3)) (ho : 0 ≤ (pc : Int) + o) (hq : ((pc : Int) + o).toNat = q) (hq2 : pc + 3 = q2)
    (Gy : ¬ x = y → Go p e below W (T.setTop (mkF m q Ls St))) (Gn : x = y → Go p e below W (T.setTop (mkF m q2 Ls St))) : Go p e below W (T.setTop (mkF m pc Ls (y :: x :: St))) := by
  by_cases hc : x = y
  · exact (Gn hc).on fun t k => Jvm.RoadKit.acmp X hx rfl h1 h2 (pc0 := pc) (same := true) rfl hd rfl (decide_eq_true hc) ho (by simp [acV, hq2]) k
  · exact (Gy hc).on fun t k => Jvm.RoadKit.acmp X hx rfl h1 h2 (pc0 := pc) (same := false) rfl hd rfl (decide_eq_false hc) ho (by simp [acV, hq]) k
theorem g_ifnullY (X : Stand p l e R s m args below meth c T locs cells slots) (hx : p.tables.exec = Jvm.exec) {o : Int} (hd : decode c.code pc = .ok (.ifnull o, 3)) (ho : 0 ≤ (pc : Int) + o) (hq : ((pc : Int) + o).toNat = q) (G : Go p e below W (T.setTop (mkF m q Ls St))) : Go p e below W (T.setTop (mkF m pc Ls (.null :: St))) :=
  G.on fun t k => XS.ifnullYes X.here hx rfl rfl hd rfl ho hq k
theorem g_ifnullN (X : Stand p l e R s m args below meth c T locs cells slots) (hx : p.tables.exec = Jvm.exec) {o : Int} {b : Addr} (hd : decode c.code pc = .ok (.ifnull o, 3)) (hq : pc + 3 = q) (G : Go p e below W (T.setTop (mkF m q Ls St))) : Go p e below W (T.setTop (mkF m pc Ls (.ref b :: St))) := by
  subst hq; exact G.on fun t k => XS.ifnullNo X.here hx rfl hd rfl k
theorem g_ifnonnullN (X : Stand p l e R s m args below meth c T locs cells slots) (hx : p.tables.exec = Jvm.exec) {o : Int} (hd : decode c.code pc = .ok (.ifnonnull o, 3)) (hq : pc + 3 = q) (G : Go p e below W (T.setTop (mkF m q Ls St))) : Go p e below W (T.setTop (mkF m pc Ls (.null :: St))) := by
  subst hq; exact G.on fun t k => XS.ifnonnullNo X.here hx rfl hd rfl k
theorem g_ifnonnullY (X : Stand p l e R s m args below meth c T locs cells slots) (hx : p.tables.exec = Jvm.exec) {o : Int} {b : Addr} (hd : decode c.code pc = .ok (.ifnonnull o, 3)) (ho : 0 ≤ (pc : Int) + o) (hq : ((pc : Int) + o).toNat = q) (G : Go p e below W (T.setTop (mkF m q Ls St))) : Go p e below W (T.setTop (mkF m pc Ls (.ref b :: St))) :=
  G.on fun t k => XS.ifnonnullYes X.here hx rfl rfl hd rfl ho hq k
end Branches
section HeapSteps
theorem g_ldcI (X : Stand p l e R s m args below meth c T locs cells slots) (hx : p.tables.exec = Jvm.exec) (hZ : Z.Warmed39 s.vm) {own : String} {index : Nat} {v : Int32} (hown : s.vm.findClass own = some m.cls) (w : (Jvm.Cond.constant own index v).before a0 Z = true) (hd : decode c.code pc = .ok (.ldc index, 2)) (hq : pc + 2 = q)
    (G : Go p e below W (T.setTop (mkF m q Ls (.int v :: St)))) : Go p e below W (T.setTop (mkF m pc Ls St)) := by
  subst hq; exact G.on fun t k => X.ldcInt hx hown (mvT hZ w) (g := mkF m pc Ls St) rfl hd t k
theorem g_ldcJ (X : Stand p l e R s m args below meth c T locs cells slots) (hx : p.tables.exec = Jvm.exec) (hZ : Z.Warmed39 s.vm) {own : String} {index : Nat} {v : Int64} (hown : s.vm.findClass own = some m.cls) (w : (Jvm.Cond.constantLong own index v).before a0 Z = true) (hd : decode c.code pc = .ok (.ldc2_w index, 3)) (hq : pc + 3 = q)
    (G : Go p e below W (T.setTop (mkF m q Ls (.long v :: St)))) : Go p e below W (T.setTop (mkF m pc Ls St)) := by
  subst hq; exact G.on fun t k => X.ldc2Long hx hown (mvT hZ w) (g := mkF m pc Ls St) rfl hd t k
theorem g_getF (X : Stand p l e R s m args below meth c T locs cells slots) (hx : p.tables.exec = Jvm.exec) (hZ : Z.Warmed39 s.vm) {own R0 O n d : String} {index : Nat} (hown : s.vm.findClass own = some m.cls) (w : (Jvm.Cond.fieldLink own index R0 n d).before a0 Z = true) (via : Via Z R0 O n d)
    (eT : T.heap = h) {a : Addr} {v : Value} (F : Fld Z h a O n d v) (hd : decode c.code pc = .ok (.getfield index, 3)) (hq : pc + 3 = q)
    (G : ∀ T', Stand p l e R s m args below meth c T' locs cells slots → T'.heap = h → Go p e below W (T'.setTop (mkF m q Ls (v :: St)))) : Go p e below W (T.setTop (mkF m pc Ls (.ref a :: St))) := by
  subst hq
  obtain ⟨T', X', e', st⟩ := getF X hx hZ hown (host := "") (Or.inl w) via eT F (g := mkF m pc Ls (.ref a :: St)) rfl rfl hd
  exact (G T' X' e').on st
theorem g_getS (X : Stand p l e R s m args below meth c T locs cells slots) (hx : p.tables.exec = Jvm.exec) (hZ : Z.Warmed39 s.vm) {own R0 O n d : String} {index : Nat} (hown : s.vm.findClass own = some m.cls) (w : (Jvm.Cond.fieldLink own index R0 n d).before a0 Z = true) (via : Via Z R0 O n d)
    (eT : T.heap = h) {v : Value} (F : Sta Z h O n d v) (hd : decode c.code pc = .ok (.getstatic index, 3)) (hq : pc + 3 = q)
    (G : ∀ T', Stand p l e R s m args below meth c T' locs cells slots → T'.heap = h → Go p e below W (T'.setTop (mkF m q Ls (v :: St)))) : Go p e below W (T.setTop (mkF m pc Ls St)) := by
  subst hq
  obtain ⟨T', X', e', st⟩ := getS2 X hx hZ hown (host := "") (Or.inl w) via eT F (g := mkF m pc Ls St) rfl hd
  exact (G T' X' e').on st
theorem g_putF (X : Stand p l e R s m args below meth c T locs cells slots) (hx : p.tables.exec = Jvm.exec) (hZ : Z.Warmed39 s.vm) {own R0 O n d C : String} {index kk : Nat} {ty : FieldType} (hown : s.vm.findClass own = some m.cls) (w : (Jvm.Cond.fieldLink own index R0 n d).before a0 Z = true) (via : Via Z R0 O n d)
    (eT : T.heap = h) {a : Addr} {v old : Value} (F : Fld Z h a O n d old) (E : Exa Z h a C) (L : (Jvm.Cond.lays C O n d).before a0 Z = true ∨ ((Jvm.Cond.laysFinal C O n d).before a0 Z = true ∧ own = O ∧ meth.name = "<init>")) (wi : (Jvm.Cond.instantiable C kk).before a0 Z = true)
    (hty : parseFieldDescriptor d = some ty) (hn : narrow ty v = v) (hf : fits ty v = true) (hd : decode c.code pc = .ok (.putfield index, 3)) (hq : pc + 3 = q)
    (G : ∀ T' h', Stand p l e R s m args below meth c T' (locs ++ [⟨a, Jvm.RoadKit.slotOf Z O n d⟩]) cells slots → T'.heap = h' → Wr h h' a (Jvm.RoadKit.slotOf Z O n d) v → Go p e below W (T'.setTop (mkF m q Ls St))) : Go p e below W (T.setTop (mkF m pc Ls (v :: .ref a :: St))) := by
  subst hq
  obtain ⟨T', h', X', e', W', st⟩ := putF X hx hZ hown (host := "") (Or.inl w) via eT F E L wi hty hn hf (g := mkF m pc Ls (v :: .ref a :: St)) rfl rfl hd
  exact (G T' h' X' e' W').on st
theorem g_new (X : Stand p l e R s m args below meth c T locs cells slots) (hx : p.tables.exec = Jvm.exec) (hZ : Z.Warmed39 s.vm) {own C : String} {index n : Nat} (hown : s.vm.findClass own = some m.cls) (w : (Jvm.Cond.classLink own index C).before a0 Z = true) (wi : (Jvm.Cond.instantiable C n).before a0 Z = true) (wz : (Jvm.Cond.initialized C).before a0 Z = true) (eT : T.heap = h)
    (hd : decode c.code pc = .ok (.new index, 3)) (hc : cells + 1 ≤ R.cells) (hl : slots + n ≤ R.slots) (hq : pc + 3 = q)
    (G : ∀ T' h' b, b = h.size → Stand p l e R s m args below meth c T' locs (cells + 1) (slots + n) → T'.heap = h' → Ext h h' → Exa Z h' b C → (∀ {O nm d : String} {ty : FieldType}, Laid Z a0 C O nm d → parseFieldDescriptor d = some ty → Fld Z h' b O nm d (defaultValue ty)) → Go p e below W (T'.setTop (mkF m q Ls (.ref b :: St)))) :
    Go p e below W (T.setTop (mkF m pc Ls St)) := by
  subst hq
  obtain ⟨T', h', X', e', E', A', D', -, st⟩ := newO X hx hZ hown w wi wz eT (g := mkF m pc Ls St) rfl hd hc hl
  exact (G T' h' _ rfl X' e' E' A' D').on st
theorem g_newP (X : Stand p l e R s m args below meth c T locs cells slots) (hx : p.tables.exec = Jvm.exec) (hZ : Z.Warmed39 s.vm) {aty : ArrayType} (w : (Jvm.Cond.arrayClass (newarray.typeOf aty)).before a0 Z = true) (eT : T.heap = h) (hd : decode c.code pc = .ok (.newarray aty, 2)) {n : Int32} (hn : ¬ n < 0) {cap : Nat} (hcap : n.toNatClampNeg ≤ cap) (hb : cap * 8 ≤ 536870912) (hc : cells + 1 ≤ R.cells) (hl : slots + cap ≤ R.slots) (hq : pc + 2 = q)
    (G : ∀ T' h' cA b, b = h.size → Stand p l e R s m args below meth c T' locs (cells + 1) (slots + cap) → T'.heap = h' → Ext h h' → Arr Z h' b (newA cA (newarray.typeOf aty) n) (newarray.typeOf aty) → Go p e below W (T'.setTop (mkF m q Ls (.ref b :: St)))) :
    Go p e below W (T.setTop (mkF m pc Ls (.int n :: St))) := by
  subst hq
  obtain ⟨T', h', cA, X', e', E', A', st⟩ := newP X hx hZ w eT (g := mkF m pc Ls (.int n :: St)) rfl hd rfl hn hcap hb hc hl
  exact (G T' h' cA _ rfl X' e' E' A').on st
theorem g_initO (X : Stand p l e R s m args below meth c T locs cells slots) (hx : p.tables.exec = Jvm.exec) (hZ : Z.Warmed39 s.vm) {own : String} {idx : Nat} (hown : s.vm.findClass own = some m.cls) (w1 : (Jvm.Cond.methodLink own idx Lib.objectInit).before a0 Z = true) (w2 : (Jvm.Cond.instanceMethod Lib.objectInit).before a0 Z = true)
    (w3 : (Jvm.Cond.code Lib.objectInit ⟨#[0xb1]⟩ 1 none).before a0 Z = true) (eT : T.heap = h) (hsz : Ls.size = c.maxLocals) {a : Addr} (hd : decode c.code pc = .ok (.invokespecial idx, 3)) (hf : 1 ≤ R.frames) (hl : (St.map fun v => v.category).sum + 12 ≤ R.locals) (hq : pc + 3 = q)
    (G : ∀ T', Stand p l e R s m args below meth c T' locs cells slots → T'.heap = h → Go p e below W (T'.setTop (mkF m q Ls St))) : Go p e below W (T.setTop (mkF m pc Ls (.ref a :: St))) := by
  subst hq
  obtain ⟨T', X', e', st⟩ := initO X hx hZ hown w1 w2 w3 eT (g := mkF m pc Ls (.ref a :: St)) rfl hsz rfl hd hf (W := (St.map fun v => v.category).sum) (by simp) hl
  exact (G T' X' e').on st
end HeapSteps
section Calls
variable {y z : MethodName} {bytes : ByteArray} {ml : Nat} {ret r : Option FieldType} {rm : Room} {as' : Array Value} {Q : Option Value → Heap → List Loc → Prop} {own C : String} {index : Nat} {ps : List FieldType}
theorem g_pure {V : Option Value} {rest : List Value} (h1 : rm.cells = 0) (h2 : rm.slots = 0) (G : ∀ T', Stand p l e R s m args below meth c T' locs cells slots → T'.heap = h → Go p e below W (T'.setTop (mkF m q Ls (V.toList ++ rest)))) :
    ∀ v T' L, Stand p l e R s m args below meth c T' (locs ++ L) (cells + rm.cells) (slots + rm.slots) → Pur V h v T'.heap L → Go p e below W (T'.setTop (mkF m q Ls (v.toList ++ rest))) := by
  intro v T' L X' hQ
  obtain ⟨rfl, rfl, e'⟩ := hQ
  rw [h1, h2, List.append_nil] at X'
  exact G T' X' e'
theorem g_callS (X : Stand p l e R s m args below meth c T locs cells slots) (hx : p.tables.exec = Jvm.exec) (hZ : Z.Warmed39 s.vm) (hown : s.vm.findClass own = some m.cls) (w1 : (Jvm.Cond.methodLink own index y).before a0 Z = true) (w2 : (Jvm.Cond.static y).before a0 Z = true) (w3 : (Jvm.Cond.initialized y.cls).before a0 Z = true) (w4 : (Jvm.Cond.code y bytes ml ret).before a0 Z = true)
    (hy : y.cls ≠ "java/lang/invoke/MethodHandle" ∧ y.cls ≠ "java/lang/invoke/VarHandle") (eT : T.heap = h) (hM : Con l Z h y bytes ml ret rm as' Q) (hsz : Ls.size = c.maxLocals) {argsL rest : List Value} (hst : St = argsL.reverse ++ rest) (has : argsL.toArray = as') (hpd : parseMethodDescriptor y.desc = some ⟨ps, r⟩) (hln : argsL.length = ps.length)
    (hf : rm.frames + 1 ≤ R.frames) (hl : (rest.map fun v => v.category).sum + (ml + 11) + rm.locals ≤ R.locals) (hc : cells + rm.cells ≤ R.cells) (hs : slots + rm.slots ≤ R.slots) (hd : decode c.code pc = .ok (.invokestatic index, 3)) (hq : pc + 3 = q)
    (G : ∀ v T' L, Stand p l e R s m args below meth c T' (locs ++ L) (cells + rm.cells) (slots + rm.slots) → Q v T'.heap L → Go p e below W (T'.setTop (mkF m q Ls (v.toList ++ rest)))) : Go p e below W (T.setTop (mkF m pc Ls St)) := by
  subst hq has
  obtain ⟨v, _, ⟨T', L', k', n'⟩, -, X', ⟨L, hQ, l', y', z'⟩, st⟩ := Jvm.LawKit.callS X hx hown (mvT hZ w1) (mvT hZ w2) (mvT hZ w3) (mvT hZ w4) hy (backOf (W := (rest.map fun v => v.category).sum) (hM []) hZ w4 w3 hf hl) (g := mkF m pc Ls St) rfl hsz (argsL := argsL) (rest := rest) (lenOf hpd hln) hst (by simp) hd (fun _ _ => ⟨rfl, eT, hc, hs⟩)
  dsimp only [Pt.U, Pt.locs, Pt.cells, Pt.slots] at X' l' y' z' st hQ
  subst l' y' z'
  exact (G v T' L X' hQ).on st
theorem g_callV (X : Stand p l e R s m args below meth c T locs cells slots) (hx : p.tables.exec = Jvm.exec) (hZ : Z.Warmed39 s.vm) (hown : s.vm.findClass own = some m.cls) (w1 : (Jvm.Cond.methodLink own index y).before a0 Z = true) (w2 : (Jvm.Cond.declares y).before a0 Z = true) (w3 : (Jvm.Cond.selects C y z).before a0 Z = true) (w4 : (Jvm.Cond.instanceMethod z).before a0 Z = true) (w5 : (Jvm.Cond.code z bytes ml ret).before a0 Z = true) (w6 : (Jvm.Cond.initialized z.cls).before a0 Z = true)
    (hnf : NotFace s y) (hy : y.cls ≠ "java/lang/invoke/MethodHandle" ∧ y.cls ≠ "java/lang/invoke/VarHandle") (eT : T.heap = h) {b : Addr} (E : Exa Z h b C) (hM : Con l Z h z bytes ml ret rm as' Q) (hsz : Ls.size = c.maxLocals) {argsL rest : List Value} (hst : St = argsL.reverse ++ .ref b :: rest) (has : (Value.ref b :: argsL).toArray = as') (hpd : parseMethodDescriptor y.desc = some ⟨ps, r⟩) (hln : argsL.length = ps.length)
    (hf : rm.frames + 1 ≤ R.frames) (hl : (rest.map fun v => v.category).sum + (ml + 11) + rm.locals ≤ R.locals) (hc : cells + rm.cells ≤ R.cells) (hs : slots + rm.slots ≤ R.slots) (hd : decode c.code pc = .ok (.invokevirtual index, 3)) (hq : pc + 3 = q)
    (G : ∀ v T' L, Stand p l e R s m args below meth c T' (locs ++ L) (cells + rm.cells) (slots + rm.slots) → Q v T'.heap L → Go p e below W (T'.setTop (mkF m q Ls (v.toList ++ rest)))) : Go p e below W (T.setTop (mkF m pc Ls St)) := by
  subst hq has
  obtain ⟨cq, kq, qa, qb, qc⟩ := isOf hZ eT E
  obtain ⟨v, _, ⟨T', L', k', n'⟩, -, X', ⟨L, hQ, l', y', z'⟩, st⟩ := X.virtualBack hx hown (mvT hZ w1) (mvT hZ w2) hnf (mvT hZ w3) (mvT hZ w4) hy (backOf (W := (rest.map fun v => v.category).sum) (hM []) hZ w5 w6 hf hl) qa qc (g := mkF m pc Ls St) rfl hsz (Steps.refl _) (argsL := argsL) (rest := rest) (lenOf hpd hln) hst (by simp) hd (fun _ _ => ⟨rfl, eT, hc, hs⟩)
  dsimp only [Pt.U, Pt.locs, Pt.cells, Pt.slots] at X' l' y' z' st hQ
  subst l' y' z'
  exact (G v T' L X' hQ).on fun t k => st.trans k
theorem g_callI (X : Stand p l e R s m args below meth c T locs cells slots) (hx : p.tables.exec = Jvm.exec) (hZ : Z.Warmed39 s.vm) (hown : s.vm.findClass own = some m.cls) (hnm : y.name = "<init>") (w1 : (Jvm.Cond.methodLink own index y).before a0 Z = true) (w2 : (Jvm.Cond.instanceMethod y).before a0 Z = true) (w3 : (Jvm.Cond.code y bytes ml none).before a0 Z = true) (w4 : (Jvm.Cond.initialized y.cls).before a0 Z = true)
    (hy : y.cls ≠ "java/lang/invoke/MethodHandle" ∧ y.cls ≠ "java/lang/invoke/VarHandle") (eT : T.heap = h) {b : Addr} (hM : Con l Z h y bytes ml none rm as' Q) (hsz : Ls.size = c.maxLocals) {argsL rest : List Value} (hst : St = argsL.reverse ++ .ref b :: rest) (has : (Value.ref b :: argsL).toArray = as') (hpd : parseMethodDescriptor y.desc = some ⟨ps, r⟩) (hln : argsL.length = ps.length)
    (hf : rm.frames + 1 ≤ R.frames) (hl : (rest.map fun v => v.category).sum + (ml + 11) + rm.locals ≤ R.locals) (hc : cells + rm.cells ≤ R.cells) (hs : slots + rm.slots ≤ R.slots) (hd : decode c.code pc = .ok (.invokespecial index, 3)) (hq : pc + 3 = q)
    (G : ∀ v T' L, Stand p l e R s m args below meth c T' (locs ++ L) (cells + rm.cells) (slots + rm.slots) → Q v T'.heap L → Go p e below W (T'.setTop (mkF m q Ls (v.toList ++ rest)))) : Go p e below W (T.setTop (mkF m pc Ls St)) := by
  subst hq has
  obtain ⟨v, _, ⟨T', L', k', n'⟩, -, X', ⟨L, hQ, l', y', z'⟩, st⟩ := X.specialBack hx (y := y) hnm hown (mvT hZ w1) (mvT hZ w2) (mvT hZ w3) hy (backOf (W := (rest.map fun v => v.category).sum) (hM []) hZ w3 w4 hf hl) (g := mkF m pc Ls St) rfl hsz (Steps.refl _) (a := b) (argsL := argsL) (rest := rest) (lenOf hpd hln) hst (by simp) hd (fun _ _ => ⟨rfl, eT, hc, hs⟩)
  dsimp only [Pt.U, Pt.locs, Pt.cells, Pt.slots] at X' l' y' z' st hQ
  subst l' y' z'
  exact (G v T' L X' hQ).on fun t k => st.trans k
end Calls
end OwnKit
section OwnMore
theorem own_sta_keep {Z : State} {h h' : Heap} {C n d : String} {w : Value} {ws : List Addr} (F : Sta Z h C n d w) (K : Keep h h' ws) (hn : ∀ x ∈ ws, ∀ cell : Cell, h[x]? = some cell → cell.vm.isStatics = false) : Sta Z h' C n d w := by
  obtain ⟨cf, i, k, f, st, cell, h1, h2, h3, h4, h5, h6, h7⟩ := F
  exact ⟨cf, i, k, f, st, cell, h1, h2, h3, h4, K.2.1 _ _ h5 (fun q => by rw [hn _ q _ h5] at h6; cases h6), h6, h7⟩
theorem own_cat1 {v : Value} (h : v.isRef = true) : v.category = 1 := by cases v <;> first | rfl | cases h
theorem own_nar {C : String} {v : Value} (h : v.isRef = true) : narrow (.object C) v = v := by cases v <;> first | rfl | cases h
theorem own_fit {C : String} {v : Value} (h : v.isRef = true) : fits (.object C) v = true := by cases v <;> first | rfl | cases h
theorem own_noref {a b : Addr} (h : ¬ a = b) : ¬ (Value.ref a = Value.ref b) := fun q => h (Value.ref.inj q)
end OwnMore
section OwnStart
variable {args : Array Value} {s : State}
theorem own_fldI {t : Term} {C n d : String} {k : Int32} {a : Addr} (ev : t.eval args s none [] s = some (.ref a)) (hh : (Jvm.Cond.eq (Term.field t C n d) (Term.int k)).value args s none s [] = some true) : Fld s s.heap a C n d (.int k) := by
  obtain ⟨x, y, e1, e2, k1, k2⟩ := cmp_v (Or.inl hh)
  obtain rfl : y = .int k := (Option.some.inj ((Term.int_eval k).symm.trans e2)).symm
  obtain ⟨z, rfl⟩ := k2
  have q : z = k := by simpa [Cond.value, e1, e2] using hh
  subst q
  exact Fld.start ((fld_at ev).symm.trans e1)
theorem own_fldJ {t : Term} {C n d : String} {k : Int64} {a : Addr} (ev : t.eval args s none [] s = some (.ref a)) (hh : (Jvm.Cond.eq (Term.field t C n d) (Term.long k)).value args s none s [] = some true) : Fld s s.heap a C n d (.long k) := by
  obtain ⟨x, y, e1, e2, k1, k2⟩ := cmp_v (Or.inl hh)
  obtain rfl : y = .long k := (Option.some.inj ((long_at k).symm.trans e2)).symm
  obtain ⟨z, rfl⟩ := k2
  have q : z = k := by simpa [Cond.value, e1, e2] using hh
  subst q
  exact Fld.start ((fld_at ev).symm.trans e1)
end OwnStart
section OwnArr
variable {p : Program} {l : Launch} {e : Env} {R : Room} {s : State} {m : MethodId} {args : Array Value} {below : List Frame} {meth : Method} {c : Code} {T : State} {locs : List Loc} {cells slots : Nat} {Z : State} {a0 : Array Value} {h h' : Heap} {W : State → Prop} {pc q : Nat} {Ls : Array Slot} {St : List Value} {ty : FieldType} {n : Nat} {f g : Nat → Value} {a b : Addr} {sl : Nat} {v : Value}
/-- the array at a: of ty, n places, place i holds f i -/
def Af (Z : State) (h : Heap) (a : Addr) (ty : FieldType) (n : Nat) (f : Nat → Value) : Prop := ∃ cl : Cell, Arr Z h a cl ty ∧ cl.slots.size = n ∧ ∀ i, i < n → cl.slots[i]? = some (f i)
theorem Af.lt (F : Af Z h a ty n f) : a < h.size := by obtain ⟨c, A, -⟩ := F; exact A.lt
theorem Af.ext (F : Af Z h a ty n f) (E : Ext h h') : Af Z h' a ty n f := by obtain ⟨c, A, r⟩ := F; exact ⟨c, A.ext E, r⟩
theorem Af.other (F : Af Z h b ty n f) (W : Wr h h' a sl v) (q : b ≠ a) : Af Z h' b ty n f := by obtain ⟨c, A, r⟩ := F; exact ⟨c, A.other W q, r⟩
theorem Af.keep {ws : List Addr} (F : Af Z h a ty n f) (K : Keep h h' ws) (q : a ∉ ws) : Af Z h' a ty n f := by obtain ⟨c, A, r⟩ := F; exact ⟨c, ⟨K.2.1 a c A.1 q, A.2⟩, r⟩
theorem Af.nostat (F : Af Z h a ty n f) : ∀ cell : Cell, h[a]? = some cell → cell.vm.isStatics = false := by
  obtain ⟨c, A, -⟩ := F; exact A.nostat
theorem Af.congr (F : Af Z h a ty n f) (q : ∀ i, i < n → f i = g i) : Af Z h a ty n g := by
  obtain ⟨c, A, s1, s2⟩ := F; exact ⟨c, A, s1, fun i hi => by rw [← q i hi]; exact s2 i hi⟩
theorem Af.fresh {k : ClassId} {z : Int32} (A : Arr Z h a (newA k ty z) ty) : Af Z h a ty z.toNatClampNeg (fun _ => defaultValue ty) := ⟨_, A, sz_new _ _ _, fun i hi => by simp [newA, hi]⟩
theorem Af.set (F : Af Z h a ty n f) {j : Nat} (W : Wr h h' a j v) (hj : j < n) : Af Z h' a ty n (fun i => if i = j then v else f i) := by
  obtain ⟨c, A, s1, s2⟩ := F
  refine ⟨c.setSlot j v, A.same W, by rw [sz_set]; exact s1, fun i hi => ?_⟩
  show (c.slots.setIfInBounds j v)[i]? = some (if i = j then v else f i)
  by_cases hij : i = j
  · subst hij; rw [if_pos rfl, Array.getElem?_setIfInBounds_self_of_lt (by rw [s1]; exact hj)]
  · rw [if_neg hij, Array.getElem?_setIfInBounds_ne (Ne.symm hij)]; exact s2 i hi
theorem Af.size_eq {n' : Nat} (F : Af Z h a ty n f) (q : n = n') : Af Z h a ty n' f := q ▸ F
theorem g_len (X : Stand p l e R s m args below meth c T locs cells slots) (hx : p.tables.exec = Jvm.exec) (hZ : Z.Warmed39 s.vm) (eT : T.heap = h) (V : Af Z h a ty n f) {z : Int32} (hz : n.toInt32 = z) (hd : decode c.code pc = .ok (.arraylength, 1)) (hq : pc + 1 = q)
    (G : Go p e below W (T.setTop (mkF m q Ls (.int z :: St)))) : Go p e below W (T.setTop (mkF m pc Ls (.ref a :: St))) := by
  obtain ⟨cl, A, s1, s2⟩ := V
  subst hq hz
  exact G.on fun t k => X.arraylength hx (by rw [eT]; exact A.1) (State.isArrayOf_alike hZ.alike A.2.1) (g := mkF m pc Ls (.ref a :: St)) rfl rfl hd t (by rw [s1]; exact k)
section Loads
variable {j : Int32}
theorem own_in {cl : Cell} (s1 : cl.slots.size = n) (h0 : ¬ j < 0) (h1 : j.toNatClampNeg < n) : ¬ (j < 0 ∨ cl.slots.size ≤ j.toNatClampNeg) := fun q => q.elim h0 fun r => absurd h1 (by omega)
theorem g_iaload (X : Stand p l e R s m args below meth c T locs cells slots) (hx : p.tables.exec = Jvm.exec) (hZ : Z.Warmed39 s.vm) (eT : T.heap = h) (V : Af Z h a .int n f) (h0 : ¬ j < 0) (h1 : j.toNatClampNeg < n) (hv : f j.toNatClampNeg = v) (hd : decode c.code pc = .ok (.iaload, 1)) (hq : pc + 1 = q)
    (G : Go p e below W (T.setTop (mkF m q Ls (v :: St)))) : Go p e below W (T.setTop (mkF m pc Ls (.int j :: .ref a :: St))) := by
  obtain ⟨cl, A, s1, s2⟩ := V
  subst hq hv
  exact G.on fun t k => X.iaload hx (by rw [eT]; exact A.1) (State.isArrayOf_alike hZ.alike A.2.1) A.2.2 (own_in s1 h0 h1) (s2 _ h1) (g := mkF m pc Ls (.int j :: .ref a :: St)) rfl rfl hd t k
theorem g_laload (X : Stand p l e R s m args below meth c T locs cells slots) (hx : p.tables.exec = Jvm.exec) (hZ : Z.Warmed39 s.vm) (eT : T.heap = h) (V : Af Z h a .long n f) (h0 : ¬ j < 0) (h1 : j.toNatClampNeg < n) (hv : f j.toNatClampNeg = v) (hd : decode c.code pc = .ok (.laload, 1)) (hq : pc + 1 = q)
    (G : Go p e below W (T.setTop (mkF m q Ls (v :: St)))) : Go p e below W (T.setTop (mkF m pc Ls (.int j :: .ref a :: St))) := by
  obtain ⟨cl, A, s1, s2⟩ := V
  subst hq hv
  exact G.on fun t k => X.laload hx (by rw [eT]; exact A.1) (State.isArrayOf_alike hZ.alike A.2.1) A.2.2 (own_in s1 h0 h1) (s2 _ h1) (g := mkF m pc Ls (.int j :: .ref a :: St)) rfl rfl hd t k
theorem g_baload (X : Stand p l e R s m args below meth c T locs cells slots) (hx : p.tables.exec = Jvm.exec) (hZ : Z.Warmed39 s.vm) (eT : T.heap = h) (V : Af Z h a .byte n f) (h0 : ¬ j < 0) (h1 : j.toNatClampNeg < n) (hv : f j.toNatClampNeg = v) (hd : decode c.code pc = .ok (.baload, 1)) (hq : pc + 1 = q)
    (G : Go p e below W (T.setTop (mkF m q Ls (v :: St)))) : Go p e below W (T.setTop (mkF m pc Ls (.int j :: .ref a :: St))) := by
  obtain ⟨cl, A, s1, s2⟩ := V
  subst hq hv
  exact G.on fun t k => X.baloadBytes hx (by rw [eT]; exact A.1) (State.isArrayOf_alike hZ.alike A.2.1) A.2.2 (own_in s1 h0 h1) (s2 _ h1) (g := mkF m pc Ls (.int j :: .ref a :: St)) rfl rfl hd t k
theorem g_aaload (X : Stand p l e R s m args below meth c T locs cells slots) (hx : p.tables.exec = Jvm.exec) (hZ : Z.Warmed39 s.vm) (eT : T.heap = h) (V : Af Z h a ty n f) (hty : ty.isReference = true) (h0 : ¬ j < 0) (h1 : j.toNatClampNeg < n) (hv : f j.toNatClampNeg = v) (hd : decode c.code pc = .ok (.aaload, 1)) (hq : pc + 1 = q)
    (G : Go p e below W (T.setTop (mkF m q Ls (v :: St)))) : Go p e below W (T.setTop (mkF m pc Ls (.int j :: .ref a :: St))) := by
  obtain ⟨cl, A, s1, s2⟩ := V
  subst hq hv
  exact G.on fun t k => X.aaload hx (by rw [eT]; exact A.1) (State.isArrayOf_alike hZ.alike A.2.1) hty A.2.2 (own_in s1 h0 h1) (s2 _ h1) (g := mkF m pc Ls (.int j :: .ref a :: St)) rfl rfl hd t k
theorem g_bastore (X : Stand p l e R s m args below meth c T locs cells slots) (hx : p.tables.exec = Jvm.exec) (hZ : Z.Warmed39 s.vm) (eT : T.heap = h) (V : Af Z h a .byte n f) {x y : Int32} (h0 : ¬ j < 0) (h1 : j.toNatClampNeg < n) (hy : nar .byte x = y) (hd : decode c.code pc = .ok (.bastore, 1)) (hq : pc + 1 = q)
    (G : ∀ T' h', Stand p l e R s m args below meth c T' (locs ++ [⟨a, j.toNatClampNeg⟩]) cells slots → T'.heap = h' → Wr h h' a j.toNatClampNeg (.int y) → Af Z h' a .byte n (fun i => if i = j.toNatClampNeg then .int y else f i) → Go p e below W (T'.setTop (mkF m q Ls St))) : Go p e below W (T.setTop (mkF m pc Ls (.int x :: .int j :: .ref a :: St))) := by
  have V' := V
  obtain ⟨cl, A, s1, s2⟩ := V
  subst hq hy
  obtain ⟨T', h', X', e', W', st⟩ := stB X hx hZ eT A (own_in s1 h0 h1) (g := mkF m pc Ls (.int x :: .int j :: .ref a :: St)) rfl rfl hd
  exact (G T' h' X' e' W' (V'.set W' h1)).on st
theorem g_lastore (X : Stand p l e R s m args below meth c T locs cells slots) (hx : p.tables.exec = Jvm.exec) (hZ : Z.Warmed39 s.vm) (eT : T.heap = h) (V : Af Z h a .long n f) {x : Int64} (h0 : ¬ j < 0) (h1 : j.toNatClampNeg < n) (hd : decode c.code pc = .ok (.lastore, 1)) (hq : pc + 1 = q)
    (G : ∀ T' h', Stand p l e R s m args below meth c T' (locs ++ [⟨a, j.toNatClampNeg⟩]) cells slots → T'.heap = h' → Wr h h' a j.toNatClampNeg (.long x) → Af Z h' a .long n (fun i => if i = j.toNatClampNeg then .long x else f i) → Go p e below W (T'.setTop (mkF m q Ls St))) : Go p e below W (T.setTop (mkF m pc Ls (.long x :: .int j :: .ref a :: St))) := by
  have V' := V
  obtain ⟨cl, A, s1, s2⟩ := V
  subst hq
  obtain ⟨T', h', X', e', W', st⟩ := stJ X hx hZ eT A (own_in s1 h0 h1) (g := mkF m pc Ls (.long x :: .int j :: .ref a :: St)) rfl rfl hd
  exact (G T' h' X' e' W' (V'.set W' h1)).on st
theorem g_iastore (X : Stand p l e R s m args below meth c T locs cells slots) (hx : p.tables.exec = Jvm.exec) (hZ : Z.Warmed39 s.vm) (eT : T.heap = h) (V : Af Z h a .int n f) {x : Int32} (h0 : ¬ j < 0) (h1 : j.toNatClampNeg < n) (hd : decode c.code pc = .ok (.iastore, 1)) (hq : pc + 1 = q)
    (G : ∀ T' h', Stand p l e R s m args below meth c T' (locs ++ [⟨a, j.toNatClampNeg⟩]) cells slots → T'.heap = h' → Wr h h' a j.toNatClampNeg (.int x) → Af Z h' a .int n (fun i => if i = j.toNatClampNeg then .int x else f i) → Go p e below W (T'.setTop (mkF m q Ls St))) : Go p e below W (T.setTop (mkF m pc Ls (.int x :: .int j :: .ref a :: St))) := by
  have V' := V
  obtain ⟨cl, A, s1, s2⟩ := V
  subst hq
  obtain ⟨T', h', X', e', W', st⟩ := stI X hx hZ eT A (own_in s1 h0 h1) (g := mkF m pc Ls (.int x :: .int j :: .ref a :: St)) rfl rfl hd
  exact (G T' h' X' e' W' (V'.set W' h1)).on st
theorem g_aastore (X : Stand p l e R s m args below meth c T locs cells slots) (hx : p.tables.exec = Jvm.exec) (hZ : Z.Warmed39 s.vm) (eT : T.heap = h) (V : Af Z h a ty n f) (hty : ty.isReference = true) (h0 : ¬ j < 0) (h1 : j.toNatClampNeg < n) (F : Sto Z h a v) (hd : decode c.code pc = .ok (.aastore, 1)) (hq : pc + 1 = q)
    (G : ∀ T' h', Stand p l e R s m args below meth c T' (locs ++ [⟨a, j.toNatClampNeg⟩]) cells slots → T'.heap = h' → Wr h h' a j.toNatClampNeg v → Af Z h' a ty n (fun i => if i = j.toNatClampNeg then v else f i) → Go p e below W (T'.setTop (mkF m q Ls St))) : Go p e below W (T.setTop (mkF m pc Ls (v :: .int j :: .ref a :: St))) := by
  have V' := V
  obtain ⟨cl, A, s1, s2⟩ := V
  subst hq
  obtain ⟨T', h', X', e', W', st⟩ := stR X hx hZ eT A (own_in s1 h0 h1) hty F (g := mkF m pc Ls (v :: .int j :: .ref a :: St)) rfl rfl hd
  exact (G T' h' X' e' W' (V'.set W' h1)).on st
end Loads
theorem g_newR (X : Stand p l e R s m args below meth c T locs cells slots) (hx : p.tables.exec = Jvm.exec) (hZ : Z.Warmed39 s.vm) {own C : String} {index : Nat} (hown : s.vm.findClass own = some m.cls) (w1 : (Jvm.Cond.classLink own index C).before a0 Z = true) (w2 : (Jvm.Cond.arrayOver (.object C)).before a0 Z = true) (eT : T.heap = h) (hd : decode c.code pc = .ok (.anewarray index, 3)) {z : Int32} (hn : ¬ z < 0) {cap : Nat} (hcap : z.toNatClampNeg ≤ cap) (hb : cap * 8 ≤ 536870912) (hc : cells + 1 ≤ R.cells) (hl : slots + cap ≤ R.slots) (hq : pc + 3 = q)
    (G : ∀ T' h' cA b, b = h.size → Stand p l e R s m args below meth c T' locs (cells + 1) (slots + cap) → T'.heap = h' → Ext h h' → Arr Z h' b (newA cA (.object C) z) (.object C) → Ovr Z cA C → Go p e below W (T'.setTop (mkF m q Ls (.ref b :: St)))) :
    Go p e below W (T.setTop (mkF m pc Ls (.int z :: St))) := by
  subst hq
  obtain ⟨T', h', cA, X', e', E', A', O', st⟩ := newR X hx hZ hown w1 w2 eT (g := mkF m pc Ls (.int z :: St)) rfl hd rfl hn hcap hb hc hl
  exact (G T' h' cA _ rfl X' e' E' A' O').on st
/-- an array over C takes an object of C; carried over steps -/
def Ov (Z : State) (h : Heap) (a : Addr) (C : String) : Prop := ∃ cl : Cell, Arr Z h a cl (.object C) ∧ Ovr Z cl.cls C
theorem Ov.sto {C : String} {y : Addr} (O : Ov Z h a C) (I : Ins Z h y C true) : Sto Z h a (.ref y) := by obtain ⟨cl, A, o⟩ := O; exact Sto.of A o I
theorem Ov.fresh {k : ClassId} {z : Int32} {C : String} (A : Arr Z h a (newA k (.object C) z) (.object C)) (O : Ovr Z k C) : Ov Z h a C := ⟨_, A, O⟩
theorem Ov.ext {C : String} (O : Ov Z h a C) (E : Ext h h') : Ov Z h' a C := by obtain ⟨cl, A, o⟩ := O; exact ⟨cl, A.ext E, o⟩
theorem Ov.wr {C : String} (O : Ov Z h a C) (W : Wr h h' b sl v) : Ov Z h' a C := by
  obtain ⟨cl, A, o⟩ := O
  by_cases q : a = b
  · subst q; exact ⟨_, A.same W, o⟩
  · exact ⟨cl, A.other W q, o⟩
end OwnArr
section OwnCase
variable {args : Array Value} {s : State} {t : Term} {a : Addr} {cl : Cell} {ty : FieldType}
theorem own_lenN {k : Int32} (A : Arr s s.heap a cl ty) (ev : t.eval args s none [] s = some (.ref a)) (hh : (Jvm.Cond.eq (Term.length t) (Term.int k)).value args s none s [] = some true) : cl.slots.size = k.toNatClampNeg := by
  have ha := A.fin (Vm.Alike.refl _)
  obtain ⟨x, y, e1, e2, -, -⟩ := cmp_v (Or.inl hh)
  have hlt : cl.slots.size < 2 ^ 31 := by
    by_cases q : cl.slots.size < 2 ^ 31
    · exact q
    · exfalso
      simp only [Term.eval, ev, ha, Option.bind_eq_bind, Option.bind_some, if_neg q] at e1
      cases e1
  have e3 := len_f ev ha hlt
  have q : cl.slots.size.toInt32 = k := by simpa [Cond.value, e3, Term.int_eval] using hh
  rw [← q]
  have := len_toInt hlt
  simp only [Int32.toNatClampNeg, this]
  omega
theorem own_el {j k : Int32} (A : Arr s s.heap a cl ty) (ev : t.eval args s none [] s = some (.ref a)) (hh : (Jvm.Cond.eq (Term.elem t (Term.int j)) (Term.int k)).value args s none s [] = some true) : cl.slots[j.toNatClampNeg]? = some (.int k) := by
  obtain ⟨x, y, e1, e2, k1, k2⟩ := cmp_v (Or.inl hh)
  obtain rfl : y = .int k := (Option.some.inj ((Term.int_eval k).symm.trans e2)).symm
  obtain ⟨z, rfl⟩ := k2
  have q : z = k := by simpa [Cond.value, e1, e2] using hh
  subst q
  exact (elem_in e1 ev (Term.int_eval j) A.1).2
theorem own_index {i : Nat} {o : Option Outcome} : (Term.index 0).eval args s o [i] s = some (.int i.toInt32) := rfl
theorem own_elx {i : Nat} (hi : i < 2 ^ 31) (A : Arr s s.heap a cl ty) (ev : t.eval args s none [i] s = some (.ref a)) (hh : (Jvm.Cond.eq (Term.elem t (Term.index 0)) (Term.index 0)).value args s none s [i] = some true) : cl.slots[i]? = some (.int (Int32.ofNat i)) := by
  obtain ⟨x, y, e1, e2, k1, k2⟩ := cmp_v (Or.inl hh)
  obtain rfl : y = .int i.toInt32 := (Option.some.inj (own_index.symm.trans e2)).symm
  obtain ⟨z, rfl⟩ := k2
  have q : z = i.toInt32 := by simpa [Cond.value, e1, e2] using hh
  subst q
  have r := (elem_in e1 ev own_index A.1).2
  have : i.toInt32.toNatClampNeg = i := by simp [Int32.toNatClampNeg, len_toInt hi]
  rw [this] at r
  exact r
end OwnCase
section OwnCase2
variable {args : Array Value} {s : State} {t : Term} {a : Addr} {cl : Cell} {ty : FieldType} {n : Nat}
theorem own_allx (hn : n ≤ 2 ^ 31) (A : Arr s s.heap a cl ty) (L : cl.slots.size = n) (ev : t.eval args s none [] s = some (.ref a)) (ev' : ∀ i, t.eval args s none [i] s = some (.ref a)) (hh : (Jvm.Cond.all t (Jvm.Cond.eq (Term.elem t (Term.index 0)) (Term.index 0))).value args s none s [] = some true) (i : Nat) (hi : i < n) : cl.slots[i]? = some (.int (Int32.ofNat i)) :=
  own_elx (Nat.lt_of_lt_of_le hi hn) A (ev' i) (Cond.all_elim ev (A.fin (Vm.Alike.refl _)) hh i (by rw [L]; exact hi))
theorem own_ally {k : Int32} (hn : n ≤ 2 ^ 31) (A : Arr s s.heap a cl ty) (L : cl.slots.size = n) (ev : t.eval args s none [] s = some (.ref a)) (ev' : ∀ i, t.eval args s none [i] s = some (.ref a)) (hh : (Jvm.Cond.all t (Jvm.Cond.or (Jvm.Cond.lt (Term.index 0) (Term.int k)) (Jvm.Cond.eq (Term.elem t (Term.index 0)) (Term.index 0)))).value args s none s [] = some true) (i : Nat) (hi : i < n) (hk : k.toInt ≤ i) : cl.slots[i]? = some (.int (Int32.ofNat i)) := by
  have h := Cond.all_elim ev (A.fin (Vm.Alike.refl _)) hh i (by rw [L]; exact hi)
  have hi' : i < 2 ^ 31 := Nat.lt_of_lt_of_le hi hn
  have hf : (Jvm.Cond.lt (Term.index 0) (Term.int k)).value args s none s [i] = some false := by
    have q : ¬ i.toInt32 < k := by rw [Int32.lt_iff_toInt_lt, len_toInt hi']; omega
    simp [Cond.value, Term.index_eval, Term.int_eval, q]
  rw [Cond.or_of_right hf] at h
  exact own_elx hi' A (ev' i) h
end OwnCase2
def own_pick (sel : Int32) (raw : Int64) (k : Int32) : Int32 :=
  if ((sel.toUInt32 >>> (((4 : Int32) * k) &&& 31).toUInt32).toInt32 &&& (15 : Int32)) = (0 : Int32) then 32
  else if ((sel.toUInt32 >>> (((4 : Int32) * k) &&& 31).toUInt32).toInt32 &&& (15 : Int32)) = (1 : Int32) then 9
  else if ((sel.toUInt32 >>> (((4 : Int32) * k) &&& 31).toUInt32).toInt32 &&& (15 : Int32)) = (2 : Int32) then 13
  else if ((sel.toUInt32 >>> (((4 : Int32) * k) &&& 31).toUInt32).toInt32 &&& (15 : Int32)) = (3 : Int32) then 10
  else if ((sel.toUInt32 >>> (((4 : Int32) * k) &&& 31).toUInt32).toInt32 &&& (15 : Int32)) = (4 : Int32) then 60
  else if ((sel.toUInt32 >>> (((4 : Int32) * k) &&& 31).toUInt32).toInt32 &&& (15 : Int32)) = (5 : Int32) then -17
  else if ((sel.toUInt32 >>> (((4 : Int32) * k) &&& 31).toUInt32).toInt32 &&& (15 : Int32)) = (6 : Int32) then -69
  else if ((sel.toUInt32 >>> (((4 : Int32) * k) &&& 31).toUInt32).toInt32 &&& (15 : Int32)) = (7 : Int32) then -65
  else (((raw.toUInt64 >>> (((8 : Int32) * k) &&& 0x3f).toInt64.toUInt64).toInt64).toInt32).toInt8.toInt32
theorem own_i8 (x : Int32) : x.toInt8.toInt32.toInt8.toInt32 = x.toInt8.toInt32 := by simp
theorem own_pick_nar (sel : Int32) (raw : Int64) (k : Int32) : nar .byte (own_pick sel raw k) = own_pick sel raw k := by
  show (own_pick sel raw k).toInt8.toInt32 = own_pick sel raw k
  unfold own_pick
  generalize ((sel.toUInt32 >>> (((4 : Int32) * k) &&& 31).toUInt32).toInt32 &&& (15 : Int32)) = c
  by_cases h0 : c = 0
  · rw [if_pos h0]; decide
  rw [if_neg h0]
  by_cases h1 : c = 1
  · rw [if_pos h1]; decide
  rw [if_neg h1]
  by_cases h2 : c = 2
  · rw [if_pos h2]; decide
  rw [if_neg h2]
  by_cases h3 : c = 3
  · rw [if_pos h3]; decide
  rw [if_neg h3]
  by_cases h4 : c = 4
  · rw [if_pos h4]; decide
  rw [if_neg h4]
  by_cases h5 : c = 5
  · rw [if_pos h5]; decide
  rw [if_neg h5]
  by_cases h6 : c = 6
  · rw [if_pos h6]; decide
  rw [if_neg h6]
  by_cases h7 : c = 7
  · rw [if_pos h7]; decide
  rw [if_neg h7]
  exact own_i8 _
def own_F (sel : Int32) (raw : Int64) (i : Nat) : Int32 := own_pick sel raw (Int32.ofNat i)
def own_ws (x : Int32) : Int32 := if x = (32 : Int32) then 1 else if x = (9 : Int32) then 1 else if x = (13 : Int32) then 1 else if x = (10 : Int32) then 1 else 0
theorem own_ws_or (x : Int32) : own_ws x = 0 ∨ own_ws x = 1 := by unfold own_ws; (repeat' split) <;> simp
theorem own_ws60 : own_ws 60 = 0 := by decide
theorem own_got {o : Bool} {ch : Int32} {wX wJ : Addr} (h : ch = if o then 1 else 0) : (if o then wX else wJ) = if ch = 0 then wJ else wX := by subst h; cases o <;> rfl
def own_fold (acc x i s n : Int32) : Int32 := if i < s then acc else if i < n then (if own_ws x = 0 then (if x = (60 : Int32) then 1 else 0) else acc) else acc
theorem own_fold_or {acc : Int32} (h : acc = 0 ∨ acc = 1) (x i s n : Int32) : own_fold acc x i s n = 0 ∨ own_fold acc x i s n = 1 := by
  unfold own_fold; repeat' split
  all_goals first | exact h | simp
def own_bom (i : Nat) : Int32 := if i = 0 then -17 else if i = 1 then -69 else -65
def own_mm (F : Nat → Int32) : Int32 := if F 0 = (-17 : Int32) then (if F 1 = (-69 : Int32) then (if F 2 = (-65 : Int32) then -1 else 2) else 1) else 0
def own_scan (F : Nat → Int32) : Nat → Nat → Bool
  | 0, _ => false
  | r + 1, i => if own_ws (F i) = 0 then decide (F i = (60 : Int32)) else own_scan F r (i + 1)
def own_st (F : Nat → Int32) (n : Nat) : Nat := if n < 3 then 0 else if own_mm F < 0 then 3 else 0
def own_of (F : Nat → Int32) (n : Nat) : Bool := own_scan F (n - own_st F n) (own_st F n)
def own_chain (F : Nat → Int32) (s n : Int32) : Int32 := own_fold (own_fold (own_fold (own_fold (own_fold (own_fold 0 (F 5) 5 s n) (F 4) 4 s n) (F 3) 3 s n) (F 2) 2 s n) (F 1) 1 s n) (F 0) 0 s n
theorem own_chain_of (F : Nat → Int32) (n st : Nat) (hn : n ≤ 6) (hs : st = 0 ∨ st = 3) (hle : st ≤ n) : own_chain F (Int32.ofNat st) (Int32.ofNat n) = if own_scan F (n - st) st then 1 else 0 := by
  rcases hs with rfl | rfl
  all_goals
    rcases (by omega : n = 0 ∨ n = 1 ∨ n = 2 ∨ n = 3 ∨ n = 4 ∨ n = 5 ∨ n = 6) with rfl | rfl | rfl | rfl | rfl | rfl | rfl
  all_goals first | omega | skip
  all_goals
    simp [own_chain, own_fold, own_scan]
    repeat' split
    all_goals simp_all [own_ws60]
theorem own_in6 {t : Nat} (h : t ≤ 6) : (Int32.ofNat t).toInt = t := Int32.toInt_ofNat_of_lt (by omega)
theorem own_tn {t : Nat} (h : t ≤ 6) : (Int32.ofNat t).toNatClampNeg = t := by simp [Int32.toNatClampNeg, own_in6 h]
theorem own_ltn {t n : Nat} (h : t ≤ 6) (hn : n ≤ 6) : Int32.ofNat t < Int32.ofNat n ↔ t < n := by
  rw [Int32.lt_iff_toInt_lt, own_in6 h, own_in6 hn]; omega
theorem own_nn {t : Nat} (h : t ≤ 6) : ¬ Int32.ofNat t < 0 := by
  rw [Int32.lt_iff_toInt_lt, own_in6 h]
  have h0 : (0 : Int32).toInt = 0 := rfl
  omega
theorem own_lt3 {n : Nat} (hn : n ≤ 6) : Int32.ofNat n < (3 : Int32) ↔ n < 3 := own_ltn (t := n) (n := 3) hn (by decide)
theorem own_succ (t : Nat) : Int32.ofNat t + Int32.ofInt 1 = Int32.ofNat (t + 1) := (Int32.ofNat_add t 1).symm
theorem own_mod7 (k : Int32) : (k &&& (2147483647 : Int32)) % (7 : Int32) = 0 ∨ (k &&& (2147483647 : Int32)) % (7 : Int32) = 1 ∨ (k &&& (2147483647 : Int32)) % (7 : Int32) = 2 ∨ (k &&& (2147483647 : Int32)) % (7 : Int32) = 3 ∨ (k &&& (2147483647 : Int32)) % (7 : Int32) = 4 ∨ (k &&& (2147483647 : Int32)) % (7 : Int32) = 5 ∨ (k &&& (2147483647 : Int32)) % (7 : Int32) = 6 := by
  have h1 := c_and k (2147483647 : Int32) (by decide)
  have h2 := (c_irem (k &&& (2147483647 : Int32)) (7 : Int32) 7 rfl).1 h1.1
  have h3 : 0 ≤ ((k &&& (2147483647 : Int32)) % (7 : Int32)).toInt ∧ ((k &&& (2147483647 : Int32)) % (7 : Int32)).toInt < 7 := by rw [h2]; omega
  generalize (k &&& (2147483647 : Int32)) % (7 : Int32) = x at h3
  have e0 : (0 : Int32).toInt = 0 := rfl
  have e1 : (1 : Int32).toInt = 1 := rfl
  have e2 : (2 : Int32).toInt = 2 := rfl
  have e3 : (3 : Int32).toInt = 3 := rfl
  have e4 : (4 : Int32).toInt = 4 := rfl
  have e5 : (5 : Int32).toInt = 5 := rfl
  have e6 : (6 : Int32).toInt = 6 := rfl
  simp only [← Int32.toInt_inj]
  omega
theorem pd_0 : parseMethodDescriptor "(B)Z" = some ⟨[.byte], some .boolean⟩ := by decide +kernel
theorem pd_1 : parseMethodDescriptor "(III)V" = some ⟨[.int, .int, .int], none⟩ := by decide +kernel
theorem pd_2 : parseMethodDescriptor "([BI[BII)I" = some ⟨[(.array .byte), .int, (.array .byte), .int, .int], some .int⟩ := by decide +kernel
theorem pd_3 : parseMethodDescriptor "([BII[BII)Z" = some ⟨[(.array .byte), .int, .int, (.array .byte), .int, .int], some .boolean⟩ := by decide +kernel
theorem pd_4 : parseMethodDescriptor "(ZBIII)Z" = some ⟨[.boolean, .byte, .int, .int, .int], some .boolean⟩ := by decide +kernel
theorem pd_5 : parseMethodDescriptor "(IJI)B" = some ⟨[.int, .long, .int], some .byte⟩ := by decide +kernel
theorem pd_6 : parseMethodDescriptor "([B)Lcom/example/mend_lapses/mendlapses/engine/BodyFormat;" = some ⟨[(.array .byte)], some (.object "com/example/mend_lapses/mendlapses/engine/BodyFormat")⟩ := by decide +kernel
theorem pn_0 : plainName "com/example/mend_lapses/mendlapses/engine/BodyFormatOfPinLaw" = true := by first | (simp [plainName, overriddenIn]; done) | decide +kernel
theorem pn_1 : plainName "java/util/Arrays" = true := by first | (simp [plainName, overriddenIn]; done) | decide +kernel
theorem pn_2 : plainName "jdk/internal/util/ArraysSupport" = true := by first | (simp [plainName, overriddenIn]; done) | decide +kernel
theorem pn_3 : plainName "com/example/mend_lapses/mendlapses/engine/BodyFormat" = true := by first | (simp [plainName, overriddenIn]; done) | decide +kernel
theorem d1_0 : decode method_3_code 0 = .ok (.iload_n 0, 1) := by decide +kernel
theorem d1_1 : decode method_3_code 1 = .ok (.iconst 4, 1) := by decide +kernel
theorem d1_2 : decode method_3_code 2 = .ok (.iload_n 3, 1) := by decide +kernel
theorem d1_3 : decode method_3_code 3 = .ok (.imul, 1) := by decide +kernel
theorem d1_4 : decode method_3_code 4 = .ok (.iushr, 1) := by decide +kernel
theorem d1_5 : decode method_3_code 5 = .ok (.bipush 15, 2) := by decide +kernel
theorem d1_7 : decode method_3_code 7 = .ok (.iand, 1) := by decide +kernel
theorem d1_8 : decode method_3_code 8 = .ok (.istore 4, 2) := by decide +kernel
theorem d1_10 : decode method_3_code 10 = .ok (.iload 4, 2) := by decide +kernel
theorem d1_12 : decode method_3_code 12 = .ok (.ifCond .ne 6, 3) := by decide +kernel
theorem d1_15 : decode method_3_code 15 = .ok (.bipush 32, 2) := by decide +kernel
theorem d1_17 : decode method_3_code 17 = .ok (.ireturn, 1) := by decide +kernel
theorem d1_18 : decode method_3_code 18 = .ok (.iload 4, 2) := by decide +kernel
theorem d1_20 : decode method_3_code 20 = .ok (.iconst 1, 1) := by decide +kernel
theorem d1_21 : decode method_3_code 21 = .ok (.if_icmp .ne 6, 3) := by decide +kernel
theorem d1_24 : decode method_3_code 24 = .ok (.bipush 9, 2) := by decide +kernel
theorem d1_26 : decode method_3_code 26 = .ok (.ireturn, 1) := by decide +kernel
theorem d1_27 : decode method_3_code 27 = .ok (.iload 4, 2) := by decide +kernel
theorem d1_29 : decode method_3_code 29 = .ok (.iconst 2, 1) := by decide +kernel
theorem d1_30 : decode method_3_code 30 = .ok (.if_icmp .ne 6, 3) := by decide +kernel
theorem d1_33 : decode method_3_code 33 = .ok (.bipush 13, 2) := by decide +kernel
theorem d1_35 : decode method_3_code 35 = .ok (.ireturn, 1) := by decide +kernel
theorem d1_36 : decode method_3_code 36 = .ok (.iload 4, 2) := by decide +kernel
theorem d1_38 : decode method_3_code 38 = .ok (.iconst 3, 1) := by decide +kernel
theorem d1_39 : decode method_3_code 39 = .ok (.if_icmp .ne 6, 3) := by decide +kernel
theorem d1_42 : decode method_3_code 42 = .ok (.bipush 10, 2) := by decide +kernel
theorem d1_44 : decode method_3_code 44 = .ok (.ireturn, 1) := by decide +kernel
theorem d1_45 : decode method_3_code 45 = .ok (.iload 4, 2) := by decide +kernel
theorem d1_47 : decode method_3_code 47 = .ok (.iconst 4, 1) := by decide +kernel
theorem d1_48 : decode method_3_code 48 = .ok (.if_icmp .ne 6, 3) := by decide +kernel
theorem d1_51 : decode method_3_code 51 = .ok (.bipush 60, 2) := by decide +kernel
theorem d1_53 : decode method_3_code 53 = .ok (.ireturn, 1) := by decide +kernel
theorem d1_54 : decode method_3_code 54 = .ok (.iload 4, 2) := by decide +kernel
theorem d1_56 : decode method_3_code 56 = .ok (.iconst 5, 1) := by decide +kernel
theorem d1_57 : decode method_3_code 57 = .ok (.if_icmp .ne 6, 3) := by decide +kernel
theorem d1_60 : decode method_3_code 60 = .ok (.bipush (-17), 2) := by decide +kernel
theorem d1_62 : decode method_3_code 62 = .ok (.ireturn, 1) := by decide +kernel
theorem d1_63 : decode method_3_code 63 = .ok (.iload 4, 2) := by decide +kernel
theorem d1_65 : decode method_3_code 65 = .ok (.bipush 6, 2) := by decide +kernel
theorem d1_67 : decode method_3_code 67 = .ok (.if_icmp .ne 6, 3) := by decide +kernel
theorem d1_70 : decode method_3_code 70 = .ok (.bipush (-69), 2) := by decide +kernel
theorem d1_72 : decode method_3_code 72 = .ok (.ireturn, 1) := by decide +kernel
theorem d1_73 : decode method_3_code 73 = .ok (.iload 4, 2) := by decide +kernel
theorem d1_75 : decode method_3_code 75 = .ok (.bipush 7, 2) := by decide +kernel
theorem d1_77 : decode method_3_code 77 = .ok (.if_icmp .ne 6, 3) := by decide +kernel
theorem d1_80 : decode method_3_code 80 = .ok (.bipush (-65), 2) := by decide +kernel
theorem d1_82 : decode method_3_code 82 = .ok (.ireturn, 1) := by decide +kernel
theorem d1_83 : decode method_3_code 83 = .ok (.lload_n 1, 1) := by decide +kernel
theorem d1_84 : decode method_3_code 84 = .ok (.bipush 8, 2) := by decide +kernel
theorem d1_86 : decode method_3_code 86 = .ok (.iload_n 3, 1) := by decide +kernel
theorem d1_87 : decode method_3_code 87 = .ok (.imul, 1) := by decide +kernel
theorem d1_88 : decode method_3_code 88 = .ok (.lushr, 1) := by decide +kernel
theorem d1_89 : decode method_3_code 89 = .ok (.l2i, 1) := by decide +kernel
theorem d1_90 : decode method_3_code 90 = .ok (.i2b, 1) := by decide +kernel
theorem d1_91 : decode method_3_code 91 = .ok (.ireturn, 1) := by decide +kernel
set_option maxRecDepth 65536 in
set_option maxHeartbeats 40000000 in
theorem rmP (l : Launch) (Z : State) (a0 : Array Value) (hw : ∀ d ∈ tables_1, d.before a0 Z = true) (sel : Int32) (raw : Int64) (k : Int32) (h0 : Heap) :
    Con l Z h0 (⟨"com/example/mend_lapses/mendlapses/engine/BodyFormatOfPinLaw", "pick", "(IJI)B"⟩ : MethodName) method_3_code 5 (some .byte) ({ frames := 0, cells := 0, slots := 0, locals := 0 } : Room) #[(.int sel), (.long raw), (.int k)] (Pur (some (.int (own_pick sel raw k))) h0) := by
  refine con_of (plainFor_of_name pn_0) (Ls := #[.val (.int sel), .val (.long raw), .second, .val (.int k), .unset]) (fun m => by first | rfl | (simp [entryFrame, mkF, argsToLocals, Value.category]; done)) ?_
  intro p e s m below meth c s₁ hx hZ hby hml hret hlk hnm hown X0 e0
  refine g_iloadN X0 hx (hb hby d1_0) (v := sel) rfl (q := 1) rfl ?_
  refine g_iconst X0 hx (hb hby d1_1) (n := (4 : Int32)) (by decide) (q := 2) rfl ?_
  refine g_iloadN X0 hx (hb hby d1_2) (v := k) rfl (q := 3) rfl ?_
  refine g_imul X0 hx (hb hby d1_3) (z := ((4 : Int32) * k)) rfl (q := 4) rfl ?_
  refine g_iushr X0 hx (hb hby d1_4) (z := ((sel.toUInt32 >>> (((4 : Int32) * k) &&& 31).toUInt32).toInt32)) rfl (q := 5) rfl ?_
  refine g_bipush X0 hx (hb hby d1_5) (n := (15 : Int32)) (by decide) (q := 7) rfl ?_
  refine g_iand X0 hx (hb hby d1_7) (z := (((sel.toUInt32 >>> (((4 : Int32) * k) &&& 31).toUInt32).toInt32) &&& (15 : Int32))) rfl (q := 8) rfl ?_
  refine g_istore X0 hx (hb hby d1_8) (L' := #[.val (.int sel), .val (.long raw), .second, .val (.int k), .val (.int (((sel.toUInt32 >>> (((4 : Int32) * k) &&& 31).toUInt32).toInt32) &&& (15 : Int32)))]) rfl (q := 10) rfl ?_
  refine g_iload X0 hx (hb hby d1_10) (v := (((sel.toUInt32 >>> (((4 : Int32) * k) &&& 31).toUInt32).toInt32) &&& (15 : Int32))) rfl (q := 12) rfl ?_
  refine g_if_ne X0 hx (hb hby d1_12) (by decide) (q := 18) (by decide) (q2 := 15) rfl (fun hb12 => ?_) (fun hb12 => ?_)
  · refine g_iload X0 hx (hb hby d1_18) (v := (((sel.toUInt32 >>> (((4 : Int32) * k) &&& 31).toUInt32).toInt32) &&& (15 : Int32))) rfl (q := 20) rfl ?_
    refine g_iconst X0 hx (hb hby d1_20) (n := (1 : Int32)) (by decide) (q := 21) rfl ?_
    refine g_icmp_ne X0 hx (hb hby d1_21) (by decide) (q := 27) (by decide) (q2 := 24) rfl (fun hb21 => ?_) (fun hb21 => ?_)
    · refine g_iload X0 hx (hb hby d1_27) (v := (((sel.toUInt32 >>> (((4 : Int32) * k) &&& 31).toUInt32).toInt32) &&& (15 : Int32))) rfl (q := 29) rfl ?_
      refine g_iconst X0 hx (hb hby d1_29) (n := (2 : Int32)) (by decide) (q := 30) rfl ?_
      refine g_icmp_ne X0 hx (hb hby d1_30) (by decide) (q := 36) (by decide) (q2 := 33) rfl (fun hb30 => ?_) (fun hb30 => ?_)
      · refine g_iload X0 hx (hb hby d1_36) (v := (((sel.toUInt32 >>> (((4 : Int32) * k) &&& 31).toUInt32).toInt32) &&& (15 : Int32))) rfl (q := 38) rfl ?_
        refine g_iconst X0 hx (hb hby d1_38) (n := (3 : Int32)) (by decide) (q := 39) rfl ?_
        refine g_icmp_ne X0 hx (hb hby d1_39) (by decide) (q := 45) (by decide) (q2 := 42) rfl (fun hb39 => ?_) (fun hb39 => ?_)
        · refine g_iload X0 hx (hb hby d1_45) (v := (((sel.toUInt32 >>> (((4 : Int32) * k) &&& 31).toUInt32).toInt32) &&& (15 : Int32))) rfl (q := 47) rfl ?_
          refine g_iconst X0 hx (hb hby d1_47) (n := (4 : Int32)) (by decide) (q := 48) rfl ?_
          refine g_icmp_ne X0 hx (hb hby d1_48) (by decide) (q := 54) (by decide) (q2 := 51) rfl (fun hb48 => ?_) (fun hb48 => ?_)
          · refine g_iload X0 hx (hb hby d1_54) (v := (((sel.toUInt32 >>> (((4 : Int32) * k) &&& 31).toUInt32).toInt32) &&& (15 : Int32))) rfl (q := 56) rfl ?_
            refine g_iconst X0 hx (hb hby d1_56) (n := (5 : Int32)) (by decide) (q := 57) rfl ?_
            refine g_icmp_ne X0 hx (hb hby d1_57) (by decide) (q := 63) (by decide) (q2 := 60) rfl (fun hb57 => ?_) (fun hb57 => ?_)
            · refine g_iload X0 hx (hb hby d1_63) (v := (((sel.toUInt32 >>> (((4 : Int32) * k) &&& 31).toUInt32).toInt32) &&& (15 : Int32))) rfl (q := 65) rfl ?_
              refine g_bipush X0 hx (hb hby d1_65) (n := (6 : Int32)) (by decide) (q := 67) rfl ?_
              refine g_icmp_ne X0 hx (hb hby d1_67) (by decide) (q := 73) (by decide) (q2 := 70) rfl (fun hb67 => ?_) (fun hb67 => ?_)
              · refine g_iload X0 hx (hb hby d1_73) (v := (((sel.toUInt32 >>> (((4 : Int32) * k) &&& 31).toUInt32).toInt32) &&& (15 : Int32))) rfl (q := 75) rfl ?_
                refine g_bipush X0 hx (hb hby d1_75) (n := (7 : Int32)) (by decide) (q := 77) rfl ?_
                refine g_icmp_ne X0 hx (hb hby d1_77) (by decide) (q := 83) (by decide) (q2 := 80) rfl (fun hb77 => ?_) (fun hb77 => ?_)
                · refine g_lloadN X0 hx (hb hby d1_83) (v := raw) rfl (q := 84) rfl ?_
                  refine g_bipush X0 hx (hb hby d1_84) (n := (8 : Int32)) (by decide) (q := 86) rfl ?_
                  refine g_iloadN X0 hx (hb hby d1_86) (v := k) rfl (q := 87) rfl ?_
                  refine g_imul X0 hx (hb hby d1_87) (z := ((8 : Int32) * k)) rfl (q := 88) rfl ?_
                  refine g_lushr X0 hx (hb hby d1_88) (z := ((raw.toUInt64 >>> (((8 : Int32) * k) &&& 0x3f).toInt64.toUInt64).toInt64)) rfl (q := 89) rfl ?_
                  refine g_l2i X0 hx (hb hby d1_89) (z := (((raw.toUInt64 >>> (((8 : Int32) * k) &&& 0x3f).toInt64.toUInt64).toInt64).toInt32)) rfl (q := 90) rfl ?_
                  refine g_i2b X0 hx (hb hby d1_90) (z := ((((raw.toUInt64 >>> (((8 : Int32) * k) &&& 0x3f).toInt64.toUInt64).toInt64).toInt32).toInt8.toInt32)) rfl (q := 91) rfl ?_
                  exact g_retZ X0 hx hret hlk (hb hby d1_91) (by simp) (congrArg Value.int (own_i8 _)) ⟨(by rw [own_pick, if_neg hb12, if_neg hb21, if_neg hb30, if_neg hb39, if_neg hb48, if_neg hb57, if_neg hb67, if_neg hb77]), rfl, e0⟩ (Nat.le_of_ble_eq_true rfl) (Nat.le_of_ble_eq_true rfl)
                · refine g_bipush X0 hx (hb hby d1_80) (n := (-65 : Int32)) (by decide) (q := 82) rfl ?_
                  exact g_retZ X0 hx hret hlk (hb hby d1_82) (by simp) rfl ⟨(by rw [own_pick, if_neg hb12, if_neg hb21, if_neg hb30, if_neg hb39, if_neg hb48, if_neg hb57, if_neg hb67, if_pos hb77]), rfl, e0⟩ (Nat.le_of_ble_eq_true rfl) (Nat.le_of_ble_eq_true rfl)
              · refine g_bipush X0 hx (hb hby d1_70) (n := (-69 : Int32)) (by decide) (q := 72) rfl ?_
                exact g_retZ X0 hx hret hlk (hb hby d1_72) (by simp) rfl ⟨(by rw [own_pick, if_neg hb12, if_neg hb21, if_neg hb30, if_neg hb39, if_neg hb48, if_neg hb57, if_pos hb67]), rfl, e0⟩ (Nat.le_of_ble_eq_true rfl) (Nat.le_of_ble_eq_true rfl)
            · refine g_bipush X0 hx (hb hby d1_60) (n := (-17 : Int32)) (by decide) (q := 62) rfl ?_
              exact g_retZ X0 hx hret hlk (hb hby d1_62) (by simp) rfl ⟨(by rw [own_pick, if_neg hb12, if_neg hb21, if_neg hb30, if_neg hb39, if_neg hb48, if_pos hb57]), rfl, e0⟩ (Nat.le_of_ble_eq_true rfl) (Nat.le_of_ble_eq_true rfl)
          · refine g_bipush X0 hx (hb hby d1_51) (n := (60 : Int32)) (by decide) (q := 53) rfl ?_
            exact g_retZ X0 hx hret hlk (hb hby d1_53) (by simp) rfl ⟨(by rw [own_pick, if_neg hb12, if_neg hb21, if_neg hb30, if_neg hb39, if_pos hb48]), rfl, e0⟩ (Nat.le_of_ble_eq_true rfl) (Nat.le_of_ble_eq_true rfl)
        · refine g_bipush X0 hx (hb hby d1_42) (n := (10 : Int32)) (by decide) (q := 44) rfl ?_
          exact g_retZ X0 hx hret hlk (hb hby d1_44) (by simp) rfl ⟨(by rw [own_pick, if_neg hb12, if_neg hb21, if_neg hb30, if_pos hb39]), rfl, e0⟩ (Nat.le_of_ble_eq_true rfl) (Nat.le_of_ble_eq_true rfl)
      · refine g_bipush X0 hx (hb hby d1_33) (n := (13 : Int32)) (by decide) (q := 35) rfl ?_
        exact g_retZ X0 hx hret hlk (hb hby d1_35) (by simp) rfl ⟨(by rw [own_pick, if_neg hb12, if_neg hb21, if_pos hb30]), rfl, e0⟩ (Nat.le_of_ble_eq_true rfl) (Nat.le_of_ble_eq_true rfl)
    · refine g_bipush X0 hx (hb hby d1_24) (n := (9 : Int32)) (by decide) (q := 26) rfl ?_
      exact g_retZ X0 hx hret hlk (hb hby d1_26) (by simp) rfl ⟨(by rw [own_pick, if_neg hb12, if_pos hb21]), rfl, e0⟩ (Nat.le_of_ble_eq_true rfl) (Nat.le_of_ble_eq_true rfl)
  · refine g_bipush X0 hx (hb hby d1_15) (n := (32 : Int32)) (by decide) (q := 17) rfl ?_
    exact g_retZ X0 hx hret hlk (hb hby d1_17) (by simp) rfl ⟨(by rw [own_pick, if_pos hb12]), rfl, e0⟩ (Nat.le_of_ble_eq_true rfl) (Nat.le_of_ble_eq_true rfl)
theorem d7_0 : decode method_4_code 0 = .ok (.iload_n 0, 1) := by decide +kernel
theorem d7_1 : decode method_4_code 1 = .ok (.bipush 32, 2) := by decide +kernel
theorem d7_3 : decode method_4_code 3 = .ok (.if_icmp .eq 21, 3) := by decide +kernel
theorem d7_6 : decode method_4_code 6 = .ok (.iload_n 0, 1) := by decide +kernel
theorem d7_7 : decode method_4_code 7 = .ok (.bipush 9, 2) := by decide +kernel
theorem d7_9 : decode method_4_code 9 = .ok (.if_icmp .eq 15, 3) := by decide +kernel
theorem d7_12 : decode method_4_code 12 = .ok (.iload_n 0, 1) := by decide +kernel
theorem d7_13 : decode method_4_code 13 = .ok (.bipush 13, 2) := by decide +kernel
theorem d7_15 : decode method_4_code 15 = .ok (.if_icmp .eq 9, 3) := by decide +kernel
theorem d7_18 : decode method_4_code 18 = .ok (.iload_n 0, 1) := by decide +kernel
theorem d7_19 : decode method_4_code 19 = .ok (.bipush 10, 2) := by decide +kernel
theorem d7_21 : decode method_4_code 21 = .ok (.if_icmp .ne 7, 3) := by decide +kernel
theorem d7_24 : decode method_4_code 24 = .ok (.iconst 1, 1) := by decide +kernel
theorem d7_25 : decode method_4_code 25 = .ok (.goto 4, 3) := by decide +kernel
theorem d7_28 : decode method_4_code 28 = .ok (.iconst 0, 1) := by decide +kernel
theorem d7_29 : decode method_4_code 29 = .ok (.ireturn, 1) := by decide +kernel
set_option maxRecDepth 65536 in
set_option maxHeartbeats 40000000 in
theorem rmW (l : Launch) (Z : State) (a0 : Array Value) (hw : ∀ d ∈ tables_1, d.before a0 Z = true) (x : Int32) (h0 : Heap) :
    Con l Z h0 (⟨"com/example/mend_lapses/mendlapses/engine/BodyFormatOfPinLaw", "ws", "(B)Z"⟩ : MethodName) method_4_code 1 (some .boolean) ({ frames := 0, cells := 0, slots := 0, locals := 0 } : Room) #[(.int x)] (Pur (some (.int (own_ws x))) h0) := by
  refine con_of (plainFor_of_name pn_0) (Ls := #[.val (.int x)]) (fun m => by first | rfl | (simp [entryFrame, mkF, argsToLocals, Value.category]; done)) ?_
  intro p e s m below meth c s₁ hx hZ hby hml hret hlk hnm hown X0 e0
  refine g_iloadN X0 hx (hb hby d7_0) (v := x) rfl (q := 1) rfl ?_
  refine g_bipush X0 hx (hb hby d7_1) (n := (32 : Int32)) (by decide) (q := 3) rfl ?_
  refine g_icmp_eq X0 hx (hb hby d7_3) (by decide) (q := 24) (by decide) (q2 := 6) rfl (fun hb3 => ?_) (fun hb3 => ?_)
  · refine g_iconst X0 hx (hb hby d7_24) (n := (1 : Int32)) (by decide) (q := 25) rfl ?_
    refine g_goto X0 hx (hb hby d7_25) (by decide) (q := 29) (by decide) ?_
    exact g_retB X0 hx hret hlk (hb hby d7_29) (by decide) ⟨(by rw [own_ws, if_pos hb3]), rfl, e0⟩ (Nat.le_of_ble_eq_true rfl) (Nat.le_of_ble_eq_true rfl)
  · refine g_iloadN X0 hx (hb hby d7_6) (v := x) rfl (q := 7) rfl ?_
    refine g_bipush X0 hx (hb hby d7_7) (n := (9 : Int32)) (by decide) (q := 9) rfl ?_
    refine g_icmp_eq X0 hx (hb hby d7_9) (by decide) (q := 24) (by decide) (q2 := 12) rfl (fun hb9 => ?_) (fun hb9 => ?_)
    · refine g_iconst X0 hx (hb hby d7_24) (n := (1 : Int32)) (by decide) (q := 25) rfl ?_
      refine g_goto X0 hx (hb hby d7_25) (by decide) (q := 29) (by decide) ?_
      exact g_retB X0 hx hret hlk (hb hby d7_29) (by decide) ⟨(by rw [own_ws, if_neg hb3, if_pos hb9]), rfl, e0⟩ (Nat.le_of_ble_eq_true rfl) (Nat.le_of_ble_eq_true rfl)
    · refine g_iloadN X0 hx (hb hby d7_12) (v := x) rfl (q := 13) rfl ?_
      refine g_bipush X0 hx (hb hby d7_13) (n := (13 : Int32)) (by decide) (q := 15) rfl ?_
      refine g_icmp_eq X0 hx (hb hby d7_15) (by decide) (q := 24) (by decide) (q2 := 18) rfl (fun hb15 => ?_) (fun hb15 => ?_)
      · refine g_iconst X0 hx (hb hby d7_24) (n := (1 : Int32)) (by decide) (q := 25) rfl ?_
        refine g_goto X0 hx (hb hby d7_25) (by decide) (q := 29) (by decide) ?_
        exact g_retB X0 hx hret hlk (hb hby d7_29) (by decide) ⟨(by rw [own_ws, if_neg hb3, if_neg hb9, if_pos hb15]), rfl, e0⟩ (Nat.le_of_ble_eq_true rfl) (Nat.le_of_ble_eq_true rfl)
      · refine g_iloadN X0 hx (hb hby d7_18) (v := x) rfl (q := 19) rfl ?_
        refine g_bipush X0 hx (hb hby d7_19) (n := (10 : Int32)) (by decide) (q := 21) rfl ?_
        refine g_icmp_ne X0 hx (hb hby d7_21) (by decide) (q := 28) (by decide) (q2 := 24) rfl (fun hb21 => ?_) (fun hb21 => ?_)
        · refine g_iconst X0 hx (hb hby d7_28) (n := (0 : Int32)) (by decide) (q := 29) rfl ?_
          exact g_retB X0 hx hret hlk (hb hby d7_29) (by decide) ⟨(by rw [own_ws, if_neg hb3, if_neg hb9, if_neg hb15, if_neg hb21]), rfl, e0⟩ (Nat.le_of_ble_eq_true rfl) (Nat.le_of_ble_eq_true rfl)
        · refine g_iconst X0 hx (hb hby d7_24) (n := (1 : Int32)) (by decide) (q := 25) rfl ?_
          refine g_goto X0 hx (hb hby d7_25) (by decide) (q := 29) (by decide) ?_
          exact g_retB X0 hx hret hlk (hb hby d7_29) (by decide) ⟨(by rw [own_ws, if_neg hb3, if_neg hb9, if_neg hb15, if_pos hb21]), rfl, e0⟩ (Nat.le_of_ble_eq_true rfl) (Nat.le_of_ble_eq_true rfl)
theorem d3_0 : decode method_5_code 0 = .ok (.iload_n 2, 1) := by decide +kernel
theorem d3_1 : decode method_5_code 1 = .ok (.iload_n 3, 1) := by decide +kernel
theorem d3_2 : decode method_5_code 2 = .ok (.if_icmp .lt 28, 3) := by decide +kernel
theorem d3_5 : decode method_5_code 5 = .ok (.iload_n 2, 1) := by decide +kernel
theorem d3_6 : decode method_5_code 6 = .ok (.iload 4, 2) := by decide +kernel
theorem d3_8 : decode method_5_code 8 = .ok (.if_icmp .ge 22, 3) := by decide +kernel
theorem d3_11 : decode method_5_code 11 = .ok (.iload_n 1, 1) := by decide +kernel
theorem d3_12 : decode method_5_code 12 = .ok (.invokestatic 31, 3) := by decide +kernel
theorem d3_15 : decode method_5_code 15 = .ok (.ifCond .ne 15, 3) := by decide +kernel
theorem d3_18 : decode method_5_code 18 = .ok (.iload_n 1, 1) := by decide +kernel
theorem d3_19 : decode method_5_code 19 = .ok (.bipush 60, 2) := by decide +kernel
theorem d3_21 : decode method_5_code 21 = .ok (.if_icmp .ne 7, 3) := by decide +kernel
theorem d3_24 : decode method_5_code 24 = .ok (.iconst 1, 1) := by decide +kernel
theorem d3_25 : decode method_5_code 25 = .ok (.goto 4, 3) := by decide +kernel
theorem d3_28 : decode method_5_code 28 = .ok (.iconst 0, 1) := by decide +kernel
theorem d3_29 : decode method_5_code 29 = .ok (.ireturn, 1) := by decide +kernel
theorem d3_30 : decode method_5_code 30 = .ok (.iload_n 0, 1) := by decide +kernel
theorem d3_31 : decode method_5_code 31 = .ok (.ireturn, 1) := by decide +kernel
set_option maxRecDepth 65536 in
set_option maxHeartbeats 40000000 in
theorem rmF (l : Launch) (Z : State) (a0 : Array Value) (hw : ∀ d ∈ tables_1, d.before a0 Z = true) (acc x i s0 n : Int32) (hacc : acc = 0 ∨ acc = 1) (h0 : Heap) :
    Con l Z h0 (⟨"com/example/mend_lapses/mendlapses/engine/BodyFormatOfPinLaw", "fold", "(ZBIII)Z"⟩ : MethodName) method_5_code 5 (some .boolean) ({ frames := 1, cells := 0, slots := 0, locals := 12 } : Room) #[(.int acc), (.int x), (.int i), (.int s0), (.int n)] (Pur (some (.int (own_fold acc x i s0 n))) h0) := by
  refine con_of (plainFor_of_name pn_0) (Ls := #[.val (.int acc), .val (.int x), .val (.int i), .val (.int s0), .val (.int n)]) (fun m => by first | rfl | (simp [entryFrame, mkF, argsToLocals, Value.category]; done)) ?_
  intro p e s m below meth c s₁ hx hZ hby hml hret hlk hnm hown X0 e0
  refine g_iloadN X0 hx (hb hby d3_0) (v := i) rfl (q := 1) rfl ?_
  refine g_iloadN X0 hx (hb hby d3_1) (v := s0) rfl (q := 2) rfl ?_
  refine g_icmp_lt X0 hx (hb hby d3_2) (by decide) (q := 30) (by decide) (q2 := 5) rfl (fun hb2 => ?_) (fun hb2 => ?_)
  · refine g_iloadN X0 hx (hb hby d3_30) (v := acc) rfl (q := 31) rfl ?_
    exact g_retB X0 hx hret hlk (hb hby d3_31) hacc ⟨(by rw [own_fold, if_pos hb2]), rfl, e0⟩ (Nat.le_of_ble_eq_true rfl) (Nat.le_of_ble_eq_true rfl)
  · refine g_iloadN X0 hx (hb hby d3_5) (v := i) rfl (q := 6) rfl ?_
    refine g_iload X0 hx (hb hby d3_6) (v := n) rfl (q := 8) rfl ?_
    refine g_icmp_ge X0 hx (hb hby d3_8) (by decide) (q := 30) (by decide) (q2 := 11) rfl (fun hb8 => ?_) (fun hb8 => ?_)
    · refine g_iloadN X0 hx (hb hby d3_30) (v := acc) rfl (q := 31) rfl ?_
      exact g_retB X0 hx hret hlk (hb hby d3_31) hacc ⟨(by rw [own_fold, if_neg hb2, if_neg hb8]), rfl, e0⟩ (Nat.le_of_ble_eq_true rfl) (Nat.le_of_ble_eq_true rfl)
    · refine g_iloadN X0 hx (hb hby d3_11) (v := x) rfl (q := 12) rfl ?_
      refine g_callS X0 hx hZ hown (hw _ (List.mem_of_getElem? (i := 29) rfl)) (hw _ (List.mem_of_getElem? (i := 30) rfl)) (hw _ (List.mem_of_getElem? (i := 3) rfl)) (hw _ (List.mem_of_getElem? (i := 31) rfl)) (by decide) e0 (rmW l Z a0 hw x h0) (by exact hml.symm) (argsL := [(.int x)]) (rest := []) rfl rfl pd_0 rfl (Nat.le_of_ble_eq_true rfl) (Nat.le_of_ble_eq_true rfl) (Nat.le_of_ble_eq_true rfl) (Nat.le_of_ble_eq_true rfl) (hb hby d3_12) (q := 15) rfl (g_pure rfl rfl fun T1 X1 e1 => ?_)
      show Go p e below _ (T1.setTop (mkF m 15 #[.val (.int acc), .val (.int x), .val (.int i), .val (.int s0), .val (.int n)] [(.int (own_ws x))]))
      refine g_if_ne X1 hx (hb hby d3_15) (by decide) (q := 30) (by decide) (q2 := 18) rfl (fun hb15 => ?_) (fun hb15 => ?_)
      · refine g_iloadN X1 hx (hb hby d3_30) (v := acc) rfl (q := 31) rfl ?_
        exact g_retB X1 hx hret hlk (hb hby d3_31) hacc ⟨(by rw [own_fold, if_neg hb2, if_pos hb8, if_neg hb15]), rfl, e1⟩ (Nat.le_of_ble_eq_true rfl) (Nat.le_of_ble_eq_true rfl)
      · refine g_iloadN X1 hx (hb hby d3_18) (v := x) rfl (q := 19) rfl ?_
        refine g_bipush X1 hx (hb hby d3_19) (n := (60 : Int32)) (by decide) (q := 21) rfl ?_
        refine g_icmp_ne X1 hx (hb hby d3_21) (by decide) (q := 28) (by decide) (q2 := 24) rfl (fun hb21 => ?_) (fun hb21 => ?_)
        · refine g_iconst X1 hx (hb hby d3_28) (n := (0 : Int32)) (by decide) (q := 29) rfl ?_
          exact g_retB X1 hx hret hlk (hb hby d3_29) (by decide) ⟨(by rw [own_fold, if_neg hb2, if_pos hb8, if_pos hb15, if_neg hb21]), rfl, e1⟩ (Nat.le_of_ble_eq_true rfl) (Nat.le_of_ble_eq_true rfl)
        · refine g_iconst X1 hx (hb hby d3_24) (n := (1 : Int32)) (by decide) (q := 25) rfl ?_
          refine g_goto X1 hx (hb hby d3_25) (by decide) (q := 29) (by decide) ?_
          exact g_retB X1 hx hret hlk (hb hby d3_29) (by decide) ⟨(by rw [own_fold, if_neg hb2, if_pos hb8, if_pos hb15, if_pos hb21]), rfl, e1⟩ (Nat.le_of_ble_eq_true rfl) (Nat.le_of_ble_eq_true rfl)
theorem d5_0 : decode jdk_65_method_30_code 0 = .ok (.iload_n 1, 1) := by decide +kernel
theorem d5_1 : decode jdk_65_method_30_code 1 = .ok (.iload_n 2, 1) := by decide +kernel
theorem d5_2 : decode jdk_65_method_30_code 2 = .ok (.if_icmp .le 44, 3) := by decide +kernel
theorem d5_46 : decode jdk_65_method_30_code 46 = .ok (.iload_n 1, 1) := by decide +kernel
theorem d5_47 : decode jdk_65_method_30_code 47 = .ok (.ifCond .ge 12, 3) := by decide +kernel
theorem d5_59 : decode jdk_65_method_30_code 59 = .ok (.iload_n 2, 1) := by decide +kernel
theorem d5_60 : decode jdk_65_method_30_code 60 = .ok (.iload_n 0, 1) := by decide +kernel
theorem d5_61 : decode jdk_65_method_30_code 61 = .ok (.if_icmp .le 12, 3) := by decide +kernel
theorem d5_73 : decode jdk_65_method_30_code 73 = .ok (.return_, 1) := by decide +kernel
set_option maxRecDepth 65536 in
set_option maxHeartbeats 40000000 in
theorem rmG (l : Launch) (Z : State) (a0 : Array Value) (hw : ∀ d ∈ tables_1, d.before a0 Z = true) (z : Int32) (hz : ¬ z < (3 : Int32)) (h0 : Heap) :
    Con l Z h0 (⟨"java/util/Arrays", "rangeCheck", "(III)V"⟩ : MethodName) jdk_65_method_30_code 3 none ({ frames := 0, cells := 0, slots := 0, locals := 0 } : Room) #[(.int z), (.int (0 : Int32)), (.int (3 : Int32))] (Pur none h0) := by
  refine con_of (plainFor_of_name pn_1) (Ls := #[.val (.int z), .val (.int (0 : Int32)), .val (.int (3 : Int32))]) (fun m => by first | rfl | (simp [entryFrame, mkF, argsToLocals, Value.category]; done)) ?_
  intro p e s m below meth c s₁ hx hZ hby hml hret hlk hnm hown X0 e0
  refine g_iloadN X0 hx (hb hby d5_0) (v := (0 : Int32)) rfl (q := 1) rfl ?_
  refine g_iloadN X0 hx (hb hby d5_1) (v := (3 : Int32)) rfl (q := 2) rfl ?_
  refine g_icmp_le X0 hx (hb hby d5_2) (by decide) (q := 46) (by decide) (q2 := 5) rfl (fun hb2 => ?_) (fun hb2 => absurd hb2 (by decide))
  refine g_iloadN X0 hx (hb hby d5_46) (v := (0 : Int32)) rfl (q := 47) rfl ?_
  refine g_if_ge X0 hx (hb hby d5_47) (by decide) (q := 59) (by decide) (q2 := 50) rfl (fun hb47 => ?_) (fun hb47 => absurd hb47 (by decide))
  refine g_iloadN X0 hx (hb hby d5_59) (v := (3 : Int32)) rfl (q := 60) rfl ?_
  refine g_iloadN X0 hx (hb hby d5_60) (v := z) rfl (q := 61) rfl ?_
  refine g_icmp_le X0 hx (hb hby d5_61) (by decide) (q := 73) (by decide) (q2 := 64) rfl (fun hb61 => ?_) (fun hb61 => absurd hb61 hz)
  exact g_retV X0 hx hret hlk (hb hby d5_73) ⟨rfl, rfl, e0⟩ (Nat.le_of_ble_eq_true rfl) (Nat.le_of_ble_eq_true rfl)
theorem d6_0 : decode jdk_48_method_14_code 0 = .ok (.iconst 0, 1) := by decide +kernel
theorem d6_1 : decode jdk_48_method_14_code 1 = .ok (.istore 5, 2) := by decide +kernel
theorem d6_3 : decode jdk_48_method_14_code 3 = .ok (.iload 4, 2) := by decide +kernel
theorem d6_5 : decode jdk_48_method_14_code 5 = .ok (.bipush 7, 2) := by decide +kernel
theorem d6_7 : decode jdk_48_method_14_code 7 = .ok (.if_icmp .le 63, 3) := by decide +kernel
theorem d6_70 : decode jdk_48_method_14_code 70 = .ok (.iload 5, 2) := by decide +kernel
theorem d6_72 : decode jdk_48_method_14_code 72 = .ok (.iload 4, 2) := by decide +kernel
theorem d6_74 : decode jdk_48_method_14_code 74 = .ok (.if_icmp .ge 27, 3) := by decide +kernel
theorem d6_77 : decode jdk_48_method_14_code 77 = .ok (.aload_n 0, 1) := by decide +kernel
theorem d6_78 : decode jdk_48_method_14_code 78 = .ok (.iload_n 1, 1) := by decide +kernel
theorem d6_79 : decode jdk_48_method_14_code 79 = .ok (.iload 5, 2) := by decide +kernel
theorem d6_81 : decode jdk_48_method_14_code 81 = .ok (.iadd, 1) := by decide +kernel
theorem d6_82 : decode jdk_48_method_14_code 82 = .ok (.baload, 1) := by decide +kernel
theorem d6_83 : decode jdk_48_method_14_code 83 = .ok (.aload_n 2, 1) := by decide +kernel
theorem d6_84 : decode jdk_48_method_14_code 84 = .ok (.iload_n 3, 1) := by decide +kernel
theorem d6_85 : decode jdk_48_method_14_code 85 = .ok (.iload 5, 2) := by decide +kernel
theorem d6_87 : decode jdk_48_method_14_code 87 = .ok (.iadd, 1) := by decide +kernel
theorem d6_88 : decode jdk_48_method_14_code 88 = .ok (.baload, 1) := by decide +kernel
theorem d6_89 : decode jdk_48_method_14_code 89 = .ok (.if_icmp .eq 6, 3) := by decide +kernel
theorem d6_92 : decode jdk_48_method_14_code 92 = .ok (.iload 5, 2) := by decide +kernel
theorem d6_94 : decode jdk_48_method_14_code 94 = .ok (.ireturn, 1) := by decide +kernel
theorem d6_95 : decode jdk_48_method_14_code 95 = .ok (.iinc 5 1, 3) := by decide +kernel
theorem d6_98 : decode jdk_48_method_14_code 98 = .ok (.goto (-28), 3) := by decide +kernel
theorem d6_101 : decode jdk_48_method_14_code 101 = .ok (.iconst (-1), 1) := by decide +kernel
theorem d6_102 : decode jdk_48_method_14_code 102 = .ok (.ireturn, 1) := by decide +kernel
set_option maxRecDepth 65536 in
set_option maxHeartbeats 40000000 in
theorem rmM (l : Launch) (Z : State) (a0 : Array Value) (hw : ∀ d ∈ tables_1, d.before a0 Z = true) (a b : Addr) (F : Nat → Int32) (na : Nat) (hna : 3 ≤ na) (h0 : Heap) (VA : Af Z h0 a .byte na (fun i => .int (F i))) (VM : Af Z h0 b .byte 3 (fun i => .int (own_bom i))) :
    Con l Z h0 (⟨"jdk/internal/util/ArraysSupport", "mismatch", "([BI[BII)I"⟩ : MethodName) jdk_48_method_14_code 8 (some .int) ({ frames := 0, cells := 0, slots := 0, locals := 0 } : Room) #[(.ref a), (.int (0 : Int32)), (.ref b), (.int (0 : Int32)), (.int (3 : Int32))] (Pur (some (.int (own_mm F))) h0) := by
  refine con_of (plainFor_of_name pn_2) (Ls := #[.val (.ref a), .val (.int (0 : Int32)), .val (.ref b), .val (.int (0 : Int32)), .val (.int (3 : Int32)), .unset, .unset, .unset]) (fun m => by first | rfl | (simp [entryFrame, mkF, argsToLocals, Value.category]; done)) ?_
  intro p e s m below meth c s₁ hx hZ hby hml hret hlk hnm hown X0 e0
  refine g_iconst X0 hx (hb hby d6_0) (n := (0 : Int32)) (by decide) (q := 1) rfl ?_
  refine g_istore X0 hx (hb hby d6_1) (L' := #[.val (.ref a), .val (.int (0 : Int32)), .val (.ref b), .val (.int (0 : Int32)), .val (.int (3 : Int32)), .val (.int (0 : Int32)), .unset, .unset]) rfl (q := 3) rfl ?_
  refine g_iload X0 hx (hb hby d6_3) (v := (3 : Int32)) rfl (q := 5) rfl ?_
  refine g_bipush X0 hx (hb hby d6_5) (n := (7 : Int32)) (by decide) (q := 7) rfl ?_
  refine g_icmp_le X0 hx (hb hby d6_7) (by decide) (q := 70) (by decide) (q2 := 10) rfl (fun hb7 => ?_) (fun hb7 => absurd hb7 (by decide))
  refine g_iload X0 hx (hb hby d6_70) (v := (0 : Int32)) rfl (q := 72) rfl ?_
  refine g_iload X0 hx (hb hby d6_72) (v := (3 : Int32)) rfl (q := 74) rfl ?_
  refine g_icmp_ge X0 hx (hb hby d6_74) (by decide) (q := 101) (by decide) (q2 := 77) rfl (fun hb74 => absurd hb74 (by decide)) (fun hb74 => ?_)
  refine g_aloadN X0 hx (hb hby d6_77) (v := (.ref a)) rfl rfl (q := 78) rfl ?_
  refine g_iloadN X0 hx (hb hby d6_78) (v := (0 : Int32)) rfl (q := 79) rfl ?_
  refine g_iload X0 hx (hb hby d6_79) (v := (0 : Int32)) rfl (q := 81) rfl ?_
  refine g_iadd X0 hx (hb hby d6_81) (z := (0 : Int32)) (by decide) (q := 82) rfl ?_
  refine g_baload X0 hx hZ e0 VA (by decide) (Nat.lt_of_lt_of_le (by decide) hna) (v := (.int (F 0))) rfl (hb hby d6_82) (q := 83) rfl ?_
  refine g_aloadN X0 hx (hb hby d6_83) (v := (.ref b)) rfl rfl (q := 84) rfl ?_
  refine g_iloadN X0 hx (hb hby d6_84) (v := (0 : Int32)) rfl (q := 85) rfl ?_
  refine g_iload X0 hx (hb hby d6_85) (v := (0 : Int32)) rfl (q := 87) rfl ?_
  refine g_iadd X0 hx (hb hby d6_87) (z := (0 : Int32)) (by decide) (q := 88) rfl ?_
  refine g_baload X0 hx hZ e0 VM (by decide) (by decide) (v := (.int (-17 : Int32))) rfl (hb hby d6_88) (q := 89) rfl ?_
  refine g_icmp_eq X0 hx (hb hby d6_89) (by decide) (q := 95) (by decide) (q2 := 92) rfl (fun hb89 => ?_) (fun hb89 => ?_)
  · have hq0 := hb89
    refine g_iinc X0 hx (hb hby d6_95) (x := (0 : Int32)) rfl (z := (1 : Int32)) (by decide) (L' := #[.val (.ref a), .val (.int (0 : Int32)), .val (.ref b), .val (.int (0 : Int32)), .val (.int (3 : Int32)), .val (.int (1 : Int32)), .unset, .unset]) rfl (q := 98) rfl ?_
    refine g_goto X0 hx (hb hby d6_98) (by decide) (q := 70) (by decide) ?_
    refine g_iload X0 hx (hb hby d6_70) (v := (1 : Int32)) rfl (q := 72) rfl ?_
    refine g_iload X0 hx (hb hby d6_72) (v := (3 : Int32)) rfl (q := 74) rfl ?_
    refine g_icmp_ge X0 hx (hb hby d6_74) (by decide) (q := 101) (by decide) (q2 := 77) rfl (fun hb74 => absurd hb74 (by decide)) (fun hb74 => ?_)
    refine g_aloadN X0 hx (hb hby d6_77) (v := (.ref a)) rfl rfl (q := 78) rfl ?_
    refine g_iloadN X0 hx (hb hby d6_78) (v := (0 : Int32)) rfl (q := 79) rfl ?_
    refine g_iload X0 hx (hb hby d6_79) (v := (1 : Int32)) rfl (q := 81) rfl ?_
    refine g_iadd X0 hx (hb hby d6_81) (z := (1 : Int32)) (by decide) (q := 82) rfl ?_
    refine g_baload X0 hx hZ e0 VA (by decide) (Nat.lt_of_lt_of_le (by decide) hna) (v := (.int (F 1))) rfl (hb hby d6_82) (q := 83) rfl ?_
    refine g_aloadN X0 hx (hb hby d6_83) (v := (.ref b)) rfl rfl (q := 84) rfl ?_
    refine g_iloadN X0 hx (hb hby d6_84) (v := (0 : Int32)) rfl (q := 85) rfl ?_
    refine g_iload X0 hx (hb hby d6_85) (v := (1 : Int32)) rfl (q := 87) rfl ?_
    refine g_iadd X0 hx (hb hby d6_87) (z := (1 : Int32)) (by decide) (q := 88) rfl ?_
    refine g_baload X0 hx hZ e0 VM (by decide) (by decide) (v := (.int (-69 : Int32))) rfl (hb hby d6_88) (q := 89) rfl ?_
    refine g_icmp_eq X0 hx (hb hby d6_89) (by decide) (q := 95) (by decide) (q2 := 92) rfl (fun hb89 => ?_) (fun hb89 => ?_)
    · have hq1 := hb89
      refine g_iinc X0 hx (hb hby d6_95) (x := (1 : Int32)) rfl (z := (2 : Int32)) (by decide) (L' := #[.val (.ref a), .val (.int (0 : Int32)), .val (.ref b), .val (.int (0 : Int32)), .val (.int (3 : Int32)), .val (.int (2 : Int32)), .unset, .unset]) rfl (q := 98) rfl ?_
      refine g_goto X0 hx (hb hby d6_98) (by decide) (q := 70) (by decide) ?_
      refine g_iload X0 hx (hb hby d6_70) (v := (2 : Int32)) rfl (q := 72) rfl ?_
      refine g_iload X0 hx (hb hby d6_72) (v := (3 : Int32)) rfl (q := 74) rfl ?_
      refine g_icmp_ge X0 hx (hb hby d6_74) (by decide) (q := 101) (by decide) (q2 := 77) rfl (fun hb74 => absurd hb74 (by decide)) (fun hb74 => ?_)
      refine g_aloadN X0 hx (hb hby d6_77) (v := (.ref a)) rfl rfl (q := 78) rfl ?_
      refine g_iloadN X0 hx (hb hby d6_78) (v := (0 : Int32)) rfl (q := 79) rfl ?_
      refine g_iload X0 hx (hb hby d6_79) (v := (2 : Int32)) rfl (q := 81) rfl ?_
      refine g_iadd X0 hx (hb hby d6_81) (z := (2 : Int32)) (by decide) (q := 82) rfl ?_
      refine g_baload X0 hx hZ e0 VA (by decide) (Nat.lt_of_lt_of_le (by decide) hna) (v := (.int (F 2))) rfl (hb hby d6_82) (q := 83) rfl ?_
      refine g_aloadN X0 hx (hb hby d6_83) (v := (.ref b)) rfl rfl (q := 84) rfl ?_
      refine g_iloadN X0 hx (hb hby d6_84) (v := (0 : Int32)) rfl (q := 85) rfl ?_
      refine g_iload X0 hx (hb hby d6_85) (v := (2 : Int32)) rfl (q := 87) rfl ?_
      refine g_iadd X0 hx (hb hby d6_87) (z := (2 : Int32)) (by decide) (q := 88) rfl ?_
      refine g_baload X0 hx hZ e0 VM (by decide) (by decide) (v := (.int (-65 : Int32))) rfl (hb hby d6_88) (q := 89) rfl ?_
      refine g_icmp_eq X0 hx (hb hby d6_89) (by decide) (q := 95) (by decide) (q2 := 92) rfl (fun hb89 => ?_) (fun hb89 => ?_)
      · have hq2 := hb89
        refine g_iinc X0 hx (hb hby d6_95) (x := (2 : Int32)) rfl (z := (3 : Int32)) (by decide) (L' := #[.val (.ref a), .val (.int (0 : Int32)), .val (.ref b), .val (.int (0 : Int32)), .val (.int (3 : Int32)), .val (.int (3 : Int32)), .unset, .unset]) rfl (q := 98) rfl ?_
        refine g_goto X0 hx (hb hby d6_98) (by decide) (q := 70) (by decide) ?_
        refine g_iload X0 hx (hb hby d6_70) (v := (3 : Int32)) rfl (q := 72) rfl ?_
        refine g_iload X0 hx (hb hby d6_72) (v := (3 : Int32)) rfl (q := 74) rfl ?_
        refine g_icmp_ge X0 hx (hb hby d6_74) (by decide) (q := 101) (by decide) (q2 := 77) rfl (fun hb74 => ?_) (fun hb74 => absurd hb74 (by decide))
        refine g_iconst X0 hx (hb hby d6_101) (n := (-1 : Int32)) (by decide) (q := 102) rfl ?_
        exact g_retI X0 hx hret hlk (hb hby d6_102) ⟨(by rw [own_mm, if_pos hq0, if_pos hq1, if_pos hq2]), rfl, e0⟩ (Nat.le_of_ble_eq_true rfl) (Nat.le_of_ble_eq_true rfl)
      · have hq2 := hb89
        refine g_iload X0 hx (hb hby d6_92) (v := (2 : Int32)) rfl (q := 94) rfl ?_
        exact g_retI X0 hx hret hlk (hb hby d6_94) ⟨(by rw [own_mm, if_pos hq0, if_pos hq1, if_neg hq2]), rfl, e0⟩ (Nat.le_of_ble_eq_true rfl) (Nat.le_of_ble_eq_true rfl)
    · have hq1 := hb89
      refine g_iload X0 hx (hb hby d6_92) (v := (1 : Int32)) rfl (q := 94) rfl ?_
      exact g_retI X0 hx hret hlk (hb hby d6_94) ⟨(by rw [own_mm, if_pos hq0, if_neg hq1]), rfl, e0⟩ (Nat.le_of_ble_eq_true rfl) (Nat.le_of_ble_eq_true rfl)
  · have hq0 := hb89
    refine g_iload X0 hx (hb hby d6_92) (v := (0 : Int32)) rfl (q := 94) rfl ?_
    exact g_retI X0 hx hret hlk (hb hby d6_94) ⟨(by rw [own_mm, if_neg hq0]), rfl, e0⟩ (Nat.le_of_ble_eq_true rfl) (Nat.le_of_ble_eq_true rfl)
theorem d4_0 : decode jdk_65_method_90_code 0 = .ok (.aload_n 0, 1) := by decide +kernel
theorem d4_1 : decode jdk_65_method_90_code 1 = .ok (.arraylength, 1) := by decide +kernel
theorem d4_2 : decode jdk_65_method_90_code 2 = .ok (.iload_n 1, 1) := by decide +kernel
theorem d4_3 : decode jdk_65_method_90_code 3 = .ok (.iload_n 2, 1) := by decide +kernel
theorem d4_4 : decode jdk_65_method_90_code 4 = .ok (.invokestatic 13, 3) := by decide +kernel
theorem d4_7 : decode jdk_65_method_90_code 7 = .ok (.aload_n 3, 1) := by decide +kernel
theorem d4_8 : decode jdk_65_method_90_code 8 = .ok (.arraylength, 1) := by decide +kernel
theorem d4_9 : decode jdk_65_method_90_code 9 = .ok (.iload 4, 2) := by decide +kernel
theorem d4_11 : decode jdk_65_method_90_code 11 = .ok (.iload 5, 2) := by decide +kernel
theorem d4_13 : decode jdk_65_method_90_code 13 = .ok (.invokestatic 13, 3) := by decide +kernel
theorem d4_16 : decode jdk_65_method_90_code 16 = .ok (.iload_n 2, 1) := by decide +kernel
theorem d4_17 : decode jdk_65_method_90_code 17 = .ok (.iload_n 1, 1) := by decide +kernel
theorem d4_18 : decode jdk_65_method_90_code 18 = .ok (.isub, 1) := by decide +kernel
theorem d4_19 : decode jdk_65_method_90_code 19 = .ok (.istore 6, 2) := by decide +kernel
theorem d4_21 : decode jdk_65_method_90_code 21 = .ok (.iload 5, 2) := by decide +kernel
theorem d4_23 : decode jdk_65_method_90_code 23 = .ok (.iload 4, 2) := by decide +kernel
theorem d4_25 : decode jdk_65_method_90_code 25 = .ok (.isub, 1) := by decide +kernel
theorem d4_26 : decode jdk_65_method_90_code 26 = .ok (.istore 7, 2) := by decide +kernel
theorem d4_28 : decode jdk_65_method_90_code 28 = .ok (.iload 6, 2) := by decide +kernel
theorem d4_30 : decode jdk_65_method_90_code 30 = .ok (.iload 7, 2) := by decide +kernel
theorem d4_32 : decode jdk_65_method_90_code 32 = .ok (.if_icmp .eq 5, 3) := by decide +kernel
theorem d4_37 : decode jdk_65_method_90_code 37 = .ok (.aload_n 0, 1) := by decide +kernel
theorem d4_38 : decode jdk_65_method_90_code 38 = .ok (.iload_n 1, 1) := by decide +kernel
theorem d4_39 : decode jdk_65_method_90_code 39 = .ok (.aload_n 3, 1) := by decide +kernel
theorem d4_40 : decode jdk_65_method_90_code 40 = .ok (.iload 4, 2) := by decide +kernel
theorem d4_42 : decode jdk_65_method_90_code 42 = .ok (.iload 6, 2) := by decide +kernel
theorem d4_44 : decode jdk_65_method_90_code 44 = .ok (.invokestatic 275, 3) := by decide +kernel
theorem d4_47 : decode jdk_65_method_90_code 47 = .ok (.ifCond .ge 7, 3) := by decide +kernel
theorem d4_50 : decode jdk_65_method_90_code 50 = .ok (.iconst 1, 1) := by decide +kernel
theorem d4_51 : decode jdk_65_method_90_code 51 = .ok (.goto 4, 3) := by decide +kernel
theorem d4_54 : decode jdk_65_method_90_code 54 = .ok (.iconst 0, 1) := by decide +kernel
theorem d4_55 : decode jdk_65_method_90_code 55 = .ok (.ireturn, 1) := by decide +kernel
set_option maxRecDepth 65536 in
set_option maxHeartbeats 40000000 in
theorem rmE (l : Launch) (Z : State) (a0 : Array Value) (hw : ∀ d ∈ tables_1, d.before a0 Z = true) (a b : Addr) (F : Nat → Int32) (na : Nat) (hna : 3 ≤ na) (hz : ¬ Int32.ofNat na < (3 : Int32)) (h0 : Heap) (VA : Af Z h0 a .byte na (fun i => .int (F i))) (VM : Af Z h0 b .byte 3 (fun i => .int (own_bom i))) :
    Con l Z h0 (⟨"java/util/Arrays", "equals", "([BII[BII)Z"⟩ : MethodName) jdk_65_method_90_code 8 (some .boolean) ({ frames := 1, cells := 0, slots := 0, locals := 19 } : Room) #[(.ref a), (.int (0 : Int32)), (.int (3 : Int32)), (.ref b), (.int (0 : Int32)), (.int (3 : Int32))] (Pur (some (.int (if own_mm F < 0 then (1 : Int32) else 0))) h0) := by
  refine con_of (plainFor_of_name pn_1) (Ls := #[.val (.ref a), .val (.int (0 : Int32)), .val (.int (3 : Int32)), .val (.ref b), .val (.int (0 : Int32)), .val (.int (3 : Int32)), .unset, .unset]) (fun m => by first | rfl | (simp [entryFrame, mkF, argsToLocals, Value.category]; done)) ?_
  intro p e s m below meth c s₁ hx hZ hby hml hret hlk hnm hown X0 e0
  refine g_aloadN X0 hx (hb hby d4_0) (v := (.ref a)) rfl rfl (q := 1) rfl ?_
  refine g_len X0 hx hZ e0 VA (z := (Int32.ofNat na)) rfl (hb hby d4_1) (q := 2) rfl ?_
  refine g_iloadN X0 hx (hb hby d4_2) (v := (0 : Int32)) rfl (q := 3) rfl ?_
  refine g_iloadN X0 hx (hb hby d4_3) (v := (3 : Int32)) rfl (q := 4) rfl ?_
  refine g_callS X0 hx hZ hown (hw _ (List.mem_of_getElem? (i := 22) rfl)) (hw _ (List.mem_of_getElem? (i := 23) rfl)) (hw _ (List.mem_of_getElem? (i := 20) rfl)) (hw _ (List.mem_of_getElem? (i := 24) rfl)) (by decide) e0 (rmG l Z a0 hw (Int32.ofNat na) hz h0) (by exact hml.symm) (argsL := [(.int (Int32.ofNat na)), (.int (0 : Int32)), (.int (3 : Int32))]) (rest := []) rfl rfl pd_1 rfl (Nat.le_of_ble_eq_true rfl) (Nat.le_of_ble_eq_true rfl) (Nat.le_of_ble_eq_true rfl) (Nat.le_of_ble_eq_true rfl) (hb hby d4_4) (q := 7) rfl (g_pure rfl rfl fun T2 X2 e2 => ?_)
  show Go p e below _ (T2.setTop (mkF m 7 #[.val (.ref a), .val (.int (0 : Int32)), .val (.int (3 : Int32)), .val (.ref b), .val (.int (0 : Int32)), .val (.int (3 : Int32)), .unset, .unset] []))
  refine g_aloadN X2 hx (hb hby d4_7) (v := (.ref b)) rfl rfl (q := 8) rfl ?_
  refine g_len X2 hx hZ e2 VM (z := (3 : Int32)) rfl (hb hby d4_8) (q := 9) rfl ?_
  refine g_iload X2 hx (hb hby d4_9) (v := (0 : Int32)) rfl (q := 11) rfl ?_
  refine g_iload X2 hx (hb hby d4_11) (v := (3 : Int32)) rfl (q := 13) rfl ?_
  refine g_callS X2 hx hZ hown (hw _ (List.mem_of_getElem? (i := 22) rfl)) (hw _ (List.mem_of_getElem? (i := 23) rfl)) (hw _ (List.mem_of_getElem? (i := 20) rfl)) (hw _ (List.mem_of_getElem? (i := 24) rfl)) (by decide) e2 (rmG l Z a0 hw (3 : Int32) (by decide) h0) (by exact hml.symm) (argsL := [(.int (3 : Int32)), (.int (0 : Int32)), (.int (3 : Int32))]) (rest := []) rfl rfl pd_1 rfl (Nat.le_of_ble_eq_true rfl) (Nat.le_of_ble_eq_true rfl) (Nat.le_of_ble_eq_true rfl) (Nat.le_of_ble_eq_true rfl) (hb hby d4_13) (q := 16) rfl (g_pure rfl rfl fun T3 X3 e3 => ?_)
  show Go p e below _ (T3.setTop (mkF m 16 #[.val (.ref a), .val (.int (0 : Int32)), .val (.int (3 : Int32)), .val (.ref b), .val (.int (0 : Int32)), .val (.int (3 : Int32)), .unset, .unset] []))
  refine g_iloadN X3 hx (hb hby d4_16) (v := (3 : Int32)) rfl (q := 17) rfl ?_
  refine g_iloadN X3 hx (hb hby d4_17) (v := (0 : Int32)) rfl (q := 18) rfl ?_
  refine g_isub X3 hx (hb hby d4_18) (z := (3 : Int32)) (by decide) (q := 19) rfl ?_
  refine g_istore X3 hx (hb hby d4_19) (L' := #[.val (.ref a), .val (.int (0 : Int32)), .val (.int (3 : Int32)), .val (.ref b), .val (.int (0 : Int32)), .val (.int (3 : Int32)), .val (.int (3 : Int32)), .unset]) rfl (q := 21) rfl ?_
  refine g_iload X3 hx (hb hby d4_21) (v := (3 : Int32)) rfl (q := 23) rfl ?_
  refine g_iload X3 hx (hb hby d4_23) (v := (0 : Int32)) rfl (q := 25) rfl ?_
  refine g_isub X3 hx (hb hby d4_25) (z := (3 : Int32)) (by decide) (q := 26) rfl ?_
  refine g_istore X3 hx (hb hby d4_26) (L' := #[.val (.ref a), .val (.int (0 : Int32)), .val (.int (3 : Int32)), .val (.ref b), .val (.int (0 : Int32)), .val (.int (3 : Int32)), .val (.int (3 : Int32)), .val (.int (3 : Int32))]) rfl (q := 28) rfl ?_
  refine g_iload X3 hx (hb hby d4_28) (v := (3 : Int32)) rfl (q := 30) rfl ?_
  refine g_iload X3 hx (hb hby d4_30) (v := (3 : Int32)) rfl (q := 32) rfl ?_
  refine g_icmp_eq X3 hx (hb hby d4_32) (by decide) (q := 37) (by decide) (q2 := 35) rfl (fun hb32 => ?_) (fun hb32 => absurd hb32 (by decide))
  refine g_aloadN X3 hx (hb hby d4_37) (v := (.ref a)) rfl rfl (q := 38) rfl ?_
  refine g_iloadN X3 hx (hb hby d4_38) (v := (0 : Int32)) rfl (q := 39) rfl ?_
  refine g_aloadN X3 hx (hb hby d4_39) (v := (.ref b)) rfl rfl (q := 40) rfl ?_
  refine g_iload X3 hx (hb hby d4_40) (v := (0 : Int32)) rfl (q := 42) rfl ?_
  refine g_iload X3 hx (hb hby d4_42) (v := (3 : Int32)) rfl (q := 44) rfl ?_
  refine g_callS X3 hx hZ hown (hw _ (List.mem_of_getElem? (i := 25) rfl)) (hw _ (List.mem_of_getElem? (i := 26) rfl)) (hw _ (List.mem_of_getElem? (i := 27) rfl)) (hw _ (List.mem_of_getElem? (i := 28) rfl)) (by decide) e3 (rmM l Z a0 hw a b F na hna h0 VA VM) (by exact hml.symm) (argsL := [(.ref a), (.int (0 : Int32)), (.ref b), (.int (0 : Int32)), (.int (3 : Int32))]) (rest := []) rfl rfl pd_2 rfl (Nat.le_of_ble_eq_true rfl) (Nat.le_of_ble_eq_true rfl) (Nat.le_of_ble_eq_true rfl) (Nat.le_of_ble_eq_true rfl) (hb hby d4_44) (q := 47) rfl (g_pure rfl rfl fun T4 X4 e4 => ?_)
  show Go p e below _ (T4.setTop (mkF m 47 #[.val (.ref a), .val (.int (0 : Int32)), .val (.int (3 : Int32)), .val (.ref b), .val (.int (0 : Int32)), .val (.int (3 : Int32)), .val (.int (3 : Int32)), .val (.int (3 : Int32))] [(.int (own_mm F))]))
  refine g_if_ge X4 hx (hb hby d4_47) (by decide) (q := 54) (by decide) (q2 := 50) rfl (fun hb47 => ?_) (fun hb47 => ?_)
  · refine g_iconst X4 hx (hb hby d4_54) (n := (0 : Int32)) (by decide) (q := 55) rfl ?_
    exact g_retB X4 hx hret hlk (hb hby d4_55) (by decide) ⟨(by rw [if_neg hb47]), rfl, e4⟩ (Nat.le_of_ble_eq_true rfl) (Nat.le_of_ble_eq_true rfl)
  · refine g_iconst X4 hx (hb hby d4_50) (n := (1 : Int32)) (by decide) (q := 51) rfl ?_
    refine g_goto X4 hx (hb hby d4_51) (by decide) (q := 55) (by decide) ?_
    exact g_retB X4 hx hret hlk (hb hby d4_55) (by decide) ⟨(by rw [if_pos hb47]), rfl, e4⟩ (Nat.le_of_ble_eq_true rfl) (Nat.le_of_ble_eq_true rfl)
theorem d2_0 : decode prog_1_method_4_code 0 = .ok (.getstatic 29, 3) := by decide +kernel
theorem d2_3 : decode prog_1_method_4_code 3 = .ok (.arraylength, 1) := by decide +kernel
theorem d2_4 : decode prog_1_method_4_code 4 = .ok (.istore_n 1, 1) := by decide +kernel
theorem d2_5 : decode prog_1_method_4_code 5 = .ok (.aload_n 0, 1) := by decide +kernel
theorem d2_6 : decode prog_1_method_4_code 6 = .ok (.arraylength, 1) := by decide +kernel
theorem d2_7 : decode prog_1_method_4_code 7 = .ok (.iload_n 1, 1) := by decide +kernel
theorem d2_8 : decode prog_1_method_4_code 8 = .ok (.if_icmp .lt 21, 3) := by decide +kernel
theorem d2_11 : decode prog_1_method_4_code 11 = .ok (.aload_n 0, 1) := by decide +kernel
theorem d2_12 : decode prog_1_method_4_code 12 = .ok (.iconst 0, 1) := by decide +kernel
theorem d2_13 : decode prog_1_method_4_code 13 = .ok (.iload_n 1, 1) := by decide +kernel
theorem d2_14 : decode prog_1_method_4_code 14 = .ok (.getstatic 29, 3) := by decide +kernel
theorem d2_17 : decode prog_1_method_4_code 17 = .ok (.iconst 0, 1) := by decide +kernel
theorem d2_18 : decode prog_1_method_4_code 18 = .ok (.iload_n 1, 1) := by decide +kernel
theorem d2_19 : decode prog_1_method_4_code 19 = .ok (.invokestatic 33, 3) := by decide +kernel
theorem d2_22 : decode prog_1_method_4_code 22 = .ok (.ifCond .eq 7, 3) := by decide +kernel
theorem d2_25 : decode prog_1_method_4_code 25 = .ok (.iload_n 1, 1) := by decide +kernel
theorem d2_26 : decode prog_1_method_4_code 26 = .ok (.goto 4, 3) := by decide +kernel
theorem d2_29 : decode prog_1_method_4_code 29 = .ok (.iconst 0, 1) := by decide +kernel
theorem d2_30 : decode prog_1_method_4_code 30 = .ok (.istore_n 2, 1) := by decide +kernel
theorem d2_31 : decode prog_1_method_4_code 31 = .ok (.iload_n 2, 1) := by decide +kernel
theorem d2_32 : decode prog_1_method_4_code 32 = .ok (.istore_n 3, 1) := by decide +kernel
theorem d2_33 : decode prog_1_method_4_code 33 = .ok (.iload_n 3, 1) := by decide +kernel
theorem d2_34 : decode prog_1_method_4_code 34 = .ok (.aload_n 0, 1) := by decide +kernel
theorem d2_35 : decode prog_1_method_4_code 35 = .ok (.arraylength, 1) := by decide +kernel
theorem d2_36 : decode prog_1_method_4_code 36 = .ok (.if_icmp .ge 59, 3) := by decide +kernel
theorem d2_39 : decode prog_1_method_4_code 39 = .ok (.aload_n 0, 1) := by decide +kernel
theorem d2_40 : decode prog_1_method_4_code 40 = .ok (.iload_n 3, 1) := by decide +kernel
theorem d2_41 : decode prog_1_method_4_code 41 = .ok (.baload, 1) := by decide +kernel
theorem d2_42 : decode prog_1_method_4_code 42 = .ok (.istore 4, 2) := by decide +kernel
theorem d2_44 : decode prog_1_method_4_code 44 = .ok (.iload 4, 2) := by decide +kernel
theorem d2_46 : decode prog_1_method_4_code 46 = .ok (.bipush 32, 2) := by decide +kernel
theorem d2_48 : decode prog_1_method_4_code 48 = .ok (.if_icmp .eq 41, 3) := by decide +kernel
theorem d2_51 : decode prog_1_method_4_code 51 = .ok (.iload 4, 2) := by decide +kernel
theorem d2_53 : decode prog_1_method_4_code 53 = .ok (.bipush 9, 2) := by decide +kernel
theorem d2_55 : decode prog_1_method_4_code 55 = .ok (.if_icmp .eq 34, 3) := by decide +kernel
theorem d2_58 : decode prog_1_method_4_code 58 = .ok (.iload 4, 2) := by decide +kernel
theorem d2_60 : decode prog_1_method_4_code 60 = .ok (.bipush 13, 2) := by decide +kernel
theorem d2_62 : decode prog_1_method_4_code 62 = .ok (.if_icmp .eq 27, 3) := by decide +kernel
theorem d2_65 : decode prog_1_method_4_code 65 = .ok (.iload 4, 2) := by decide +kernel
theorem d2_67 : decode prog_1_method_4_code 67 = .ok (.bipush 10, 2) := by decide +kernel
theorem d2_69 : decode prog_1_method_4_code 69 = .ok (.if_icmp .eq 20, 3) := by decide +kernel
theorem d2_72 : decode prog_1_method_4_code 72 = .ok (.iload 4, 2) := by decide +kernel
theorem d2_74 : decode prog_1_method_4_code 74 = .ok (.bipush 60, 2) := by decide +kernel
theorem d2_76 : decode prog_1_method_4_code 76 = .ok (.if_icmp .ne 9, 3) := by decide +kernel
theorem d2_79 : decode prog_1_method_4_code 79 = .ok (.getstatic 7, 3) := by decide +kernel
theorem d2_82 : decode prog_1_method_4_code 82 = .ok (.goto 6, 3) := by decide +kernel
theorem d2_85 : decode prog_1_method_4_code 85 = .ok (.getstatic 3, 3) := by decide +kernel
theorem d2_88 : decode prog_1_method_4_code 88 = .ok (.areturn, 1) := by decide +kernel
theorem d2_89 : decode prog_1_method_4_code 89 = .ok (.iinc 3 1, 3) := by decide +kernel
theorem d2_92 : decode prog_1_method_4_code 92 = .ok (.goto (-59), 3) := by decide +kernel
theorem d2_95 : decode prog_1_method_4_code 95 = .ok (.getstatic 3, 3) := by decide +kernel
theorem d2_98 : decode prog_1_method_4_code 98 = .ok (.areturn, 1) := by decide +kernel
set_option maxRecDepth 65536 in
set_option maxHeartbeats 40000000 in
theorem rmO (l : Launch) (Z : State) (a0 : Array Value) (hw : ∀ d ∈ tables_1, d.before a0 Z = true) (a bm wX wJ : Addr) (F : Nat → Int32) (na : Nat) (hn : na ≤ 6) (h0 : Heap) (VA : Af Z h0 a .byte na (fun i => .int (F i))) (VM : Af Z h0 bm .byte 3 (fun i => .int (own_bom i))) (SB : Sta Z h0 "com/example/mend_lapses/mendlapses/engine/BodyFormat" "UTF_8_BYTE_ORDER_MARK" "[B" (.ref bm)) (SX : Sta Z h0 "com/example/mend_lapses/mendlapses/engine/BodyFormat" "XML" "Lcom/example/mend_lapses/mendlapses/engine/BodyFormat;" (.ref wX)) (SJ : Sta Z h0 "com/example/mend_lapses/mendlapses/engine/BodyFormat" "JSON" "Lcom/example/mend_lapses/mendlapses/engine/BodyFormat;" (.ref wJ)) :
    Con l Z h0 (⟨"com/example/mend_lapses/mendlapses/engine/BodyFormat", "of", "([B)Lcom/example/mend_lapses/mendlapses/engine/BodyFormat;"⟩ : MethodName) prog_1_method_4_code 5 (some (.object "com/example/mend_lapses/mendlapses/engine/BodyFormat")) ({ frames := 2, cells := 0, slots := 0, locals := 38 } : Room) #[(.ref a)] (Pur (some (.ref (if own_of F na then wX else wJ))) h0) := by
  refine con_of (plainFor_of_name pn_3) (Ls := #[.val (.ref a), .unset, .unset, .unset, .unset]) (fun m => by first | rfl | (simp [entryFrame, mkF, argsToLocals, Value.category]; done)) ?_
  intro p e s m below meth c s₁ hx hZ hby hml hret hlk hnm hown X0 e0
  have loop : ∀ (r i : Nat), i + r = na → ∀ (T : State) (x2 : Int32) (s4 : Slot), (s4 = .unset ∨ ∃ x, s4 = .val (.int x)) → Stand p l e ({ frames := 2, cells := 0, slots := 0, locals := 38 } : Room) s m #[(.ref a)] below meth c T [] 0 0 → T.heap = h0 → Go p e below (Wd s below (Pur (some (.ref (if own_scan F r i then wX else wJ))) h0) ({ frames := 2, cells := 0, slots := 0, locals := 38 } : Room).cells ({ frames := 2, cells := 0, slots := 0, locals := 38 } : Room).slots) (T.setTop (mkF m 33 #[.val (.ref a), .val (.int (3 : Int32)), .val (.int x2), .val (.int (Int32.ofNat i)), s4] [])) := by
    intro r
    induction r with
    | zero =>
      intro i hi T x2 s4 h4 X e
      refine g_iloadN X hx (hb hby d2_33) (v := (Int32.ofNat i)) rfl (q := 34) rfl ?_
      refine g_aloadN X hx (hb hby d2_34) (v := (.ref a)) rfl rfl (q := 35) rfl ?_
      refine g_len X hx hZ e VA (z := (Int32.ofNat na)) rfl (hb hby d2_35) (q := 36) rfl ?_
      refine g_icmp_ge X hx (hb hby d2_36) (by decide) (q := 95) (by decide) (q2 := 39) rfl (fun hb36 => ?_) (fun hb36 => absurd hb36 (fun q => absurd ((own_ltn (by omega) hn).mp q) (by omega)))
      refine g_getS X hx hZ hown (hw _ (List.mem_of_getElem? (i := 12) rfl)) Via.refl e SJ (hb hby d2_95) (q := 98) rfl fun T5 X5 e5 => ?_
      exact g_retA X5 hx hret hlk (hb hby d2_98) rfl rfl rfl ⟨rfl, rfl, e5⟩ (Nat.le_of_ble_eq_true rfl) (Nat.le_of_ble_eq_true rfl)
    | succ r ih =>
      intro i hi T x2 s4 h4 X e
      refine g_iloadN X hx (hb hby d2_33) (v := (Int32.ofNat i)) rfl (q := 34) rfl ?_
      refine g_aloadN X hx (hb hby d2_34) (v := (.ref a)) rfl rfl (q := 35) rfl ?_
      refine g_len X hx hZ e VA (z := (Int32.ofNat na)) rfl (hb hby d2_35) (q := 36) rfl ?_
      refine g_icmp_ge X hx (hb hby d2_36) (by decide) (q := 95) (by decide) (q2 := 39) rfl (fun hb36 => absurd hb36 (fun q => q ((own_ltn (by omega) hn).mpr (by omega)))) (fun hb36 => ?_)
      refine g_aloadN X hx (hb hby d2_39) (v := (.ref a)) rfl rfl (q := 40) rfl ?_
      refine g_iloadN X hx (hb hby d2_40) (v := (Int32.ofNat i)) rfl (q := 41) rfl ?_
      refine g_baload X hx hZ e VA (own_nn (by omega)) (by rw [own_tn (by omega)]; omega) (v := (.int (F i))) (by rw [own_tn (by omega)]) (hb hby d2_41) (q := 42) rfl ?_
      refine g_istore X hx (hb hby d2_42) (L' := #[.val (.ref a), .val (.int (3 : Int32)), .val (.int x2), .val (.int (Int32.ofNat i)), .val (.int (F i))]) (by rcases h4 with rfl | ⟨x, rfl⟩ <;> rfl) (q := 44) rfl ?_
      refine g_iload X hx (hb hby d2_44) (v := (F i)) rfl (q := 46) rfl ?_
      refine g_bipush X hx (hb hby d2_46) (n := (32 : Int32)) (by decide) (q := 48) rfl ?_
      refine g_icmp_eq X hx (hb hby d2_48) (by decide) (q := 89) (by decide) (q2 := 51) rfl (fun hb48 => ?_) (fun hb48 => ?_)
      · refine g_iinc X hx (hb hby d2_89) (x := Int32.ofNat i) rfl (z := Int32.ofNat (i + 1)) (own_succ i) (L' := #[.val (.ref a), .val (.int (3 : Int32)), .val (.int x2), .val (.int (Int32.ofNat (i + 1))), .val (.int (F i))]) rfl (q := 92) rfl ?_
        refine g_goto X hx (hb hby d2_92) (by decide) (q := 33) (by decide) ?_
        rw [show own_scan F (r + 1) i = own_scan F r (i + 1) by simp [own_scan, own_ws, hb48]]
        exact ih (i + 1) (by omega) _ _ _ (Or.inr ⟨_, rfl⟩) X e
      · refine g_iload X hx (hb hby d2_51) (v := (F i)) rfl (q := 53) rfl ?_
        refine g_bipush X hx (hb hby d2_53) (n := (9 : Int32)) (by decide) (q := 55) rfl ?_
        refine g_icmp_eq X hx (hb hby d2_55) (by decide) (q := 89) (by decide) (q2 := 58) rfl (fun hb55 => ?_) (fun hb55 => ?_)
        · refine g_iinc X hx (hb hby d2_89) (x := Int32.ofNat i) rfl (z := Int32.ofNat (i + 1)) (own_succ i) (L' := #[.val (.ref a), .val (.int (3 : Int32)), .val (.int x2), .val (.int (Int32.ofNat (i + 1))), .val (.int (F i))]) rfl (q := 92) rfl ?_
          refine g_goto X hx (hb hby d2_92) (by decide) (q := 33) (by decide) ?_
          rw [show own_scan F (r + 1) i = own_scan F r (i + 1) by simp [own_scan, own_ws, hb48, hb55]]
          exact ih (i + 1) (by omega) _ _ _ (Or.inr ⟨_, rfl⟩) X e
        · refine g_iload X hx (hb hby d2_58) (v := (F i)) rfl (q := 60) rfl ?_
          refine g_bipush X hx (hb hby d2_60) (n := (13 : Int32)) (by decide) (q := 62) rfl ?_
          refine g_icmp_eq X hx (hb hby d2_62) (by decide) (q := 89) (by decide) (q2 := 65) rfl (fun hb62 => ?_) (fun hb62 => ?_)
          · refine g_iinc X hx (hb hby d2_89) (x := Int32.ofNat i) rfl (z := Int32.ofNat (i + 1)) (own_succ i) (L' := #[.val (.ref a), .val (.int (3 : Int32)), .val (.int x2), .val (.int (Int32.ofNat (i + 1))), .val (.int (F i))]) rfl (q := 92) rfl ?_
            refine g_goto X hx (hb hby d2_92) (by decide) (q := 33) (by decide) ?_
            rw [show own_scan F (r + 1) i = own_scan F r (i + 1) by simp [own_scan, own_ws, hb48, hb55, hb62]]
            exact ih (i + 1) (by omega) _ _ _ (Or.inr ⟨_, rfl⟩) X e
          · refine g_iload X hx (hb hby d2_65) (v := (F i)) rfl (q := 67) rfl ?_
            refine g_bipush X hx (hb hby d2_67) (n := (10 : Int32)) (by decide) (q := 69) rfl ?_
            refine g_icmp_eq X hx (hb hby d2_69) (by decide) (q := 89) (by decide) (q2 := 72) rfl (fun hb69 => ?_) (fun hb69 => ?_)
            · refine g_iinc X hx (hb hby d2_89) (x := Int32.ofNat i) rfl (z := Int32.ofNat (i + 1)) (own_succ i) (L' := #[.val (.ref a), .val (.int (3 : Int32)), .val (.int x2), .val (.int (Int32.ofNat (i + 1))), .val (.int (F i))]) rfl (q := 92) rfl ?_
              refine g_goto X hx (hb hby d2_92) (by decide) (q := 33) (by decide) ?_
              rw [show own_scan F (r + 1) i = own_scan F r (i + 1) by simp [own_scan, own_ws, hb48, hb55, hb62, hb69]]
              exact ih (i + 1) (by omega) _ _ _ (Or.inr ⟨_, rfl⟩) X e
            · refine g_iload X hx (hb hby d2_72) (v := (F i)) rfl (q := 74) rfl ?_
              refine g_bipush X hx (hb hby d2_74) (n := (60 : Int32)) (by decide) (q := 76) rfl ?_
              refine g_icmp_ne X hx (hb hby d2_76) (by decide) (q := 85) (by decide) (q2 := 79) rfl (fun hb76 => ?_) (fun hb76 => ?_)
              · refine g_getS X hx hZ hown (hw _ (List.mem_of_getElem? (i := 12) rfl)) Via.refl e SJ (hb hby d2_85) (q := 88) rfl fun T6 X6 e6 => ?_
                exact g_retA X6 hx hret hlk (hb hby d2_88) rfl rfl rfl ⟨(by rw [show own_scan F (r + 1) i = false by simp [own_scan, own_ws, hb48, hb55, hb62, hb69, hb76]]; rfl), rfl, e6⟩ (Nat.le_of_ble_eq_true rfl) (Nat.le_of_ble_eq_true rfl)
              · refine g_getS X hx hZ hown (hw _ (List.mem_of_getElem? (i := 32) rfl)) Via.refl e SX (hb hby d2_79) (q := 82) rfl fun T7 X7 e7 => ?_
                refine g_goto X7 hx (hb hby d2_82) (by decide) (q := 88) (by decide) ?_
                exact g_retA X7 hx hret hlk (hb hby d2_88) rfl rfl rfl ⟨(by rw [show own_scan F (r + 1) i = true by simp [own_scan, own_ws, hb48, hb55, hb62, hb69, hb76]]; rfl), rfl, e7⟩ (Nat.le_of_ble_eq_true rfl) (Nat.le_of_ble_eq_true rfl)
  refine g_getS X0 hx hZ hown (hw _ (List.mem_of_getElem? (i := 10) rfl)) Via.refl e0 SB (hb hby d2_0) (q := 3) rfl fun T8 X8 e8 => ?_
  refine g_len X8 hx hZ e8 VM (z := (3 : Int32)) rfl (hb hby d2_3) (q := 4) rfl ?_
  refine g_istoreN X8 hx (hb hby d2_4) (L' := #[.val (.ref a), .val (.int (3 : Int32)), .unset, .unset, .unset]) rfl (q := 5) rfl ?_
  refine g_aloadN X8 hx (hb hby d2_5) (v := (.ref a)) rfl rfl (q := 6) rfl ?_
  refine g_len X8 hx hZ e8 VA (z := (Int32.ofNat na)) rfl (hb hby d2_6) (q := 7) rfl ?_
  refine g_iloadN X8 hx (hb hby d2_7) (v := (3 : Int32)) rfl (q := 8) rfl ?_
  refine g_icmp_lt X8 hx (hb hby d2_8) (by decide) (q := 29) (by decide) (q2 := 11) rfl (fun hb8 => ?_) (fun hb8 => ?_)
  · refine g_iconst X8 hx (hb hby d2_29) (n := (0 : Int32)) (by decide) (q := 30) rfl ?_
    refine g_istoreN X8 hx (hb hby d2_30) (L' := #[.val (.ref a), .val (.int (3 : Int32)), .val (.int (0 : Int32)), .unset, .unset]) rfl (q := 31) rfl ?_
    refine g_iloadN X8 hx (hb hby d2_31) (v := (0 : Int32)) rfl (q := 32) rfl ?_
    refine g_istoreN X8 hx (hb hby d2_32) (L' := #[.val (.ref a), .val (.int (3 : Int32)), .val (.int (0 : Int32)), .val (.int (0 : Int32)), .unset]) rfl (q := 33) rfl ?_
    simp only [own_of, show own_st F na = 0 from if_pos ((own_lt3 hn).mp hb8)]
    exact loop _ _ (by omega) _ _ _ (Or.inl rfl) X8 e8
  · refine g_aloadN X8 hx (hb hby d2_11) (v := (.ref a)) rfl rfl (q := 12) rfl ?_
    refine g_iconst X8 hx (hb hby d2_12) (n := (0 : Int32)) (by decide) (q := 13) rfl ?_
    refine g_iloadN X8 hx (hb hby d2_13) (v := (3 : Int32)) rfl (q := 14) rfl ?_
    refine g_getS X8 hx hZ hown (hw _ (List.mem_of_getElem? (i := 10) rfl)) Via.refl e8 SB (hb hby d2_14) (q := 17) rfl fun T9 X9 e9 => ?_
    refine g_iconst X9 hx (hb hby d2_17) (n := (0 : Int32)) (by decide) (q := 18) rfl ?_
    refine g_iloadN X9 hx (hb hby d2_18) (v := (3 : Int32)) rfl (q := 19) rfl ?_
    refine g_callS X9 hx hZ hown (hw _ (List.mem_of_getElem? (i := 18) rfl)) (hw _ (List.mem_of_getElem? (i := 19) rfl)) (hw _ (List.mem_of_getElem? (i := 20) rfl)) (hw _ (List.mem_of_getElem? (i := 21) rfl)) (by decide) e9 (rmE l Z a0 hw a bm F na (Nat.not_lt.mp (fun q => hb8 ((own_lt3 hn).mpr q))) hb8 h0 VA VM) (by exact hml.symm) (argsL := [(.ref a), (.int (0 : Int32)), (.int (3 : Int32)), (.ref bm), (.int (0 : Int32)), (.int (3 : Int32))]) (rest := []) rfl rfl pd_3 rfl (Nat.le_of_ble_eq_true rfl) (Nat.le_of_ble_eq_true rfl) (Nat.le_of_ble_eq_true rfl) (Nat.le_of_ble_eq_true rfl) (hb hby d2_19) (q := 22) rfl (g_pure rfl rfl fun T10 X10 e10 => ?_)
    show Go p e below _ (T10.setTop (mkF m 22 #[.val (.ref a), .val (.int (3 : Int32)), .unset, .unset, .unset] [(.int (if own_mm F < 0 then (1 : Int32) else 0))]))
    refine g_if_eq X10 hx (hb hby d2_22) (by decide) (q := 29) (by decide) (q2 := 25) rfl (fun hb22 => ?_) (fun hb22 => ?_)
    · refine g_iconst X10 hx (hb hby d2_29) (n := (0 : Int32)) (by decide) (q := 30) rfl ?_
      refine g_istoreN X10 hx (hb hby d2_30) (L' := #[.val (.ref a), .val (.int (3 : Int32)), .val (.int (0 : Int32)), .unset, .unset]) rfl (q := 31) rfl ?_
      refine g_iloadN X10 hx (hb hby d2_31) (v := (0 : Int32)) rfl (q := 32) rfl ?_
      refine g_istoreN X10 hx (hb hby d2_32) (L' := #[.val (.ref a), .val (.int (3 : Int32)), .val (.int (0 : Int32)), .val (.int (0 : Int32)), .unset]) rfl (q := 33) rfl ?_
      simp only [own_of, show own_st F na = 0 from (if_neg (fun q => hb8 ((own_lt3 hn).mpr q))).trans (if_neg (fun q => by rw [if_pos q] at hb22; exact absurd hb22 (by decide)))]
      exact loop _ _ (by omega) _ _ _ (Or.inl rfl) X10 e10
    · refine g_iloadN X10 hx (hb hby d2_25) (v := (3 : Int32)) rfl (q := 26) rfl ?_
      refine g_goto X10 hx (hb hby d2_26) (by decide) (q := 30) (by decide) ?_
      refine g_istoreN X10 hx (hb hby d2_30) (L' := #[.val (.ref a), .val (.int (3 : Int32)), .val (.int (3 : Int32)), .unset, .unset]) rfl (q := 31) rfl ?_
      refine g_iloadN X10 hx (hb hby d2_31) (v := (3 : Int32)) rfl (q := 32) rfl ?_
      refine g_istoreN X10 hx (hb hby d2_32) (L' := #[.val (.ref a), .val (.int (3 : Int32)), .val (.int (3 : Int32)), .val (.int (3 : Int32)), .unset]) rfl (q := 33) rfl ?_
      have hle : ¬ na < 3 := fun q => hb8 ((own_lt3 hn).mpr q)
      simp only [own_of, show own_st F na = 3 from (if_neg (fun q => hb8 ((own_lt3 hn).mpr q))).trans (if_pos (Decidable.byContradiction fun q => hb22 (if_neg q)))]
      exact loop _ _ (by omega) _ _ _ (Or.inl rfl) X10 e10
set_option maxRecDepth 65536 in
set_option maxHeartbeats 40000000 in
theorem rm0 (l : Launch) (Z : State) (a0 : Array Value) (hw : ∀ d ∈ tables_1, d.before a0 Z = true) (p1 sel : Int32) (raw : Int64) (bm wX wJ : Addr) (h0 : Heap) (n0 : Nat) (Z0 : n0 ≤ h0.size) (VM : Af Z h0 bm .byte 3 (fun i => .int (own_bom i))) (SB : Sta Z h0 "com/example/mend_lapses/mendlapses/engine/BodyFormat" "UTF_8_BYTE_ORDER_MARK" "[B" (.ref bm)) (SX : Sta Z h0 "com/example/mend_lapses/mendlapses/engine/BodyFormat" "XML" "Lcom/example/mend_lapses/mendlapses/engine/BodyFormat;" (.ref wX)) (SJ : Sta Z h0 "com/example/mend_lapses/mendlapses/engine/BodyFormat" "JSON" "Lcom/example/mend_lapses/mendlapses/engine/BodyFormat;" (.ref wJ)) (nv : Int32) (hnv : (p1 &&& (2147483647 : Int32)) % (7 : Int32) = nv) (hcase : nv = 0 ∨ nv = 1 ∨ nv = 2 ∨ nv = 3 ∨ nv = 4 ∨ nv = 5 ∨ nv = 6) :
    Con l Z h0 x code maxLocals ret room_1 #[(.int p1), (.int sel), (.long raw)] (fun v h L => v = some (.int 1) ∧ Fr n0 L) := by
  refine con_of (plainFor_of_name pn_0) (Ls := #[.val (.int p1), .val (.int sel), .val (.long raw), .second, .unset, .unset, .unset, .unset, .unset, .unset, .unset, .unset, .unset, .unset, .unset, .unset, .unset]) (fun m => by first | rfl | (simp [entryFrame, mkF, argsToLocals, Value.category, maxLocals]; done)) ?_
  intro p e s m below meth c s₁ hx hZ hby hml hret hlk hnm hown X0 e0
  have J187 : ∀ (T : State) (h : Heap) (locs : List Loc) (a11 got : Addr) (nv' x13 sv : Int32) (X : Stand p l e room_1 s m #[(.int p1), (.int sel), (.long raw)] below meth c T locs 1 6) (e' : T.heap = h) (N' : Fr n0 locs) (SX' : Sta Z h "com/example/mend_lapses/mendlapses/engine/BodyFormat" "XML" "Lcom/example/mend_lapses/mendlapses/engine/BodyFormat;" (.ref wX)) (SJ' : Sta Z h "com/example/mend_lapses/mendlapses/engine/BodyFormat" "JSON" "Lcom/example/mend_lapses/mendlapses/engine/BodyFormat;" (.ref wJ)) (hgot : got = if own_chain (own_F sel raw) sv nv' = 0 then wJ else wX), Go p e below (Wd s below (fun v h L => v = some (.int 1) ∧ Fr n0 L) room_1.cells room_1.slots) (T.setTop (mkF m 187 #[.val (.int p1), .val (.int sel), .val (.long raw), .second, .val (.int nv'), .val (.int (own_pick sel raw (0 : Int32))), .val (.int (own_pick sel raw (1 : Int32))), .val (.int (own_pick sel raw (2 : Int32))), .val (.int (own_pick sel raw (3 : Int32))), .val (.int (own_pick sel raw (4 : Int32))), .val (.int (own_pick sel raw (5 : Int32))), .val (.ref a11), .val (.ref got), .val (.int x13), .val (.int sv), .unset, .unset] [])) := by
    intro T h locs a11 got nv' x13 sv X e' N' SX' SJ' hgot
    refine g_iconst X hx (hb hby at_187) (n := (0 : Int32)) (by decide) (q := 188) rfl ?_
    refine g_istore X hx (hb hby at_188) (L' := #[.val (.int p1), .val (.int sel), .val (.long raw), .second, .val (.int nv'), .val (.int (own_pick sel raw (0 : Int32))), .val (.int (own_pick sel raw (1 : Int32))), .val (.int (own_pick sel raw (2 : Int32))), .val (.int (own_pick sel raw (3 : Int32))), .val (.int (own_pick sel raw (4 : Int32))), .val (.int (own_pick sel raw (5 : Int32))), .val (.ref a11), .val (.ref got), .val (.int x13), .val (.int sv), .val (.int (0 : Int32)), .unset]) rfl (q := 190) rfl ?_
    refine g_iload X hx (hb hby at_190) (v := (0 : Int32)) rfl (q := 192) rfl ?_
    refine g_iload X hx (hb hby at_192) (v := (own_pick sel raw (5 : Int32))) rfl (q := 194) rfl ?_
    refine g_iconst X hx (hb hby at_194) (n := (5 : Int32)) (by decide) (q := 195) rfl ?_
    refine g_iload X hx (hb hby at_195) (v := sv) rfl (q := 197) rfl ?_
    refine g_iload X hx (hb hby at_197) (v := nv') rfl (q := 199) rfl ?_
    refine g_callS X hx hZ hown (hw _ (List.mem_of_getElem? (i := 14) rfl)) (hw _ (List.mem_of_getElem? (i := 15) rfl)) (hw _ (List.mem_of_getElem? (i := 3) rfl)) (hw _ (List.mem_of_getElem? (i := 16) rfl)) (by decide) e' (rmF l Z a0 hw (0 : Int32) (own_pick sel raw (5 : Int32)) (5 : Int32) sv nv' (Or.inl rfl) h) (by exact hml.symm) (argsL := [(.int (0 : Int32)), (.int (own_pick sel raw (5 : Int32))), (.int (5 : Int32)), (.int sv), (.int nv')]) (rest := []) rfl rfl pd_4 rfl (Nat.le_of_ble_eq_true rfl) (Nat.le_of_ble_eq_true rfl) (Nat.le_of_ble_eq_true rfl) (Nat.le_of_ble_eq_true rfl) (hb hby at_199) (q := 202) rfl (g_pure rfl rfl fun T11 X11 e11 => ?_)
    show Go p e below _ (T11.setTop (mkF m 202 #[.val (.int p1), .val (.int sel), .val (.long raw), .second, .val (.int nv'), .val (.int (own_pick sel raw (0 : Int32))), .val (.int (own_pick sel raw (1 : Int32))), .val (.int (own_pick sel raw (2 : Int32))), .val (.int (own_pick sel raw (3 : Int32))), .val (.int (own_pick sel raw (4 : Int32))), .val (.int (own_pick sel raw (5 : Int32))), .val (.ref a11), .val (.ref got), .val (.int x13), .val (.int sv), .val (.int (0 : Int32)), .unset] [(.int (own_fold (0 : Int32) (own_pick sel raw (5 : Int32)) (5 : Int32) sv nv'))]))
    refine g_istore X11 hx (hb hby at_202) (L' := #[.val (.int p1), .val (.int sel), .val (.long raw), .second, .val (.int nv'), .val (.int (own_pick sel raw (0 : Int32))), .val (.int (own_pick sel raw (1 : Int32))), .val (.int (own_pick sel raw (2 : Int32))), .val (.int (own_pick sel raw (3 : Int32))), .val (.int (own_pick sel raw (4 : Int32))), .val (.int (own_pick sel raw (5 : Int32))), .val (.ref a11), .val (.ref got), .val (.int x13), .val (.int sv), .val (.int (own_fold (0 : Int32) (own_pick sel raw (5 : Int32)) (5 : Int32) sv nv')), .unset]) rfl (q := 204) rfl ?_
    refine g_iload X11 hx (hb hby at_204) (v := (own_fold (0 : Int32) (own_pick sel raw (5 : Int32)) (5 : Int32) sv nv')) rfl (q := 206) rfl ?_
    refine g_iload X11 hx (hb hby at_206) (v := (own_pick sel raw (4 : Int32))) rfl (q := 208) rfl ?_
    refine g_iconst X11 hx (hb hby at_208) (n := (4 : Int32)) (by decide) (q := 209) rfl ?_
    refine g_iload X11 hx (hb hby at_209) (v := sv) rfl (q := 211) rfl ?_
    refine g_iload X11 hx (hb hby at_211) (v := nv') rfl (q := 213) rfl ?_
    refine g_callS X11 hx hZ hown (hw _ (List.mem_of_getElem? (i := 14) rfl)) (hw _ (List.mem_of_getElem? (i := 15) rfl)) (hw _ (List.mem_of_getElem? (i := 3) rfl)) (hw _ (List.mem_of_getElem? (i := 16) rfl)) (by decide) e11 (rmF l Z a0 hw (own_fold (0 : Int32) (own_pick sel raw (5 : Int32)) (5 : Int32) sv nv') (own_pick sel raw (4 : Int32)) (4 : Int32) sv nv' (own_fold_or (Or.inl rfl) _ _ _ _) h) (by exact hml.symm) (argsL := [(.int (own_fold (0 : Int32) (own_pick sel raw (5 : Int32)) (5 : Int32) sv nv')), (.int (own_pick sel raw (4 : Int32))), (.int (4 : Int32)), (.int sv), (.int nv')]) (rest := []) rfl rfl pd_4 rfl (Nat.le_of_ble_eq_true rfl) (Nat.le_of_ble_eq_true rfl) (Nat.le_of_ble_eq_true rfl) (Nat.le_of_ble_eq_true rfl) (hb hby at_213) (q := 216) rfl (g_pure rfl rfl fun T12 X12 e12 => ?_)
    show Go p e below _ (T12.setTop (mkF m 216 #[.val (.int p1), .val (.int sel), .val (.long raw), .second, .val (.int nv'), .val (.int (own_pick sel raw (0 : Int32))), .val (.int (own_pick sel raw (1 : Int32))), .val (.int (own_pick sel raw (2 : Int32))), .val (.int (own_pick sel raw (3 : Int32))), .val (.int (own_pick sel raw (4 : Int32))), .val (.int (own_pick sel raw (5 : Int32))), .val (.ref a11), .val (.ref got), .val (.int x13), .val (.int sv), .val (.int (own_fold (0 : Int32) (own_pick sel raw (5 : Int32)) (5 : Int32) sv nv')), .unset] [(.int (own_fold (own_fold (0 : Int32) (own_pick sel raw (5 : Int32)) (5 : Int32) sv nv') (own_pick sel raw (4 : Int32)) (4 : Int32) sv nv'))]))
    refine g_istore X12 hx (hb hby at_216) (L' := #[.val (.int p1), .val (.int sel), .val (.long raw), .second, .val (.int nv'), .val (.int (own_pick sel raw (0 : Int32))), .val (.int (own_pick sel raw (1 : Int32))), .val (.int (own_pick sel raw (2 : Int32))), .val (.int (own_pick sel raw (3 : Int32))), .val (.int (own_pick sel raw (4 : Int32))), .val (.int (own_pick sel raw (5 : Int32))), .val (.ref a11), .val (.ref got), .val (.int x13), .val (.int sv), .val (.int (own_fold (own_fold (0 : Int32) (own_pick sel raw (5 : Int32)) (5 : Int32) sv nv') (own_pick sel raw (4 : Int32)) (4 : Int32) sv nv')), .unset]) rfl (q := 218) rfl ?_
    refine g_iload X12 hx (hb hby at_218) (v := (own_fold (own_fold (0 : Int32) (own_pick sel raw (5 : Int32)) (5 : Int32) sv nv') (own_pick sel raw (4 : Int32)) (4 : Int32) sv nv')) rfl (q := 220) rfl ?_
    refine g_iload X12 hx (hb hby at_220) (v := (own_pick sel raw (3 : Int32))) rfl (q := 222) rfl ?_
    refine g_iconst X12 hx (hb hby at_222) (n := (3 : Int32)) (by decide) (q := 223) rfl ?_
    refine g_iload X12 hx (hb hby at_223) (v := sv) rfl (q := 225) rfl ?_
    refine g_iload X12 hx (hb hby at_225) (v := nv') rfl (q := 227) rfl ?_
    refine g_callS X12 hx hZ hown (hw _ (List.mem_of_getElem? (i := 14) rfl)) (hw _ (List.mem_of_getElem? (i := 15) rfl)) (hw _ (List.mem_of_getElem? (i := 3) rfl)) (hw _ (List.mem_of_getElem? (i := 16) rfl)) (by decide) e12 (rmF l Z a0 hw (own_fold (own_fold (0 : Int32) (own_pick sel raw (5 : Int32)) (5 : Int32) sv nv') (own_pick sel raw (4 : Int32)) (4 : Int32) sv nv') (own_pick sel raw (3 : Int32)) (3 : Int32) sv nv' (own_fold_or (own_fold_or (Or.inl rfl) _ _ _ _) _ _ _ _) h) (by exact hml.symm) (argsL := [(.int (own_fold (own_fold (0 : Int32) (own_pick sel raw (5 : Int32)) (5 : Int32) sv nv') (own_pick sel raw (4 : Int32)) (4 : Int32) sv nv')), (.int (own_pick sel raw (3 : Int32))), (.int (3 : Int32)), (.int sv), (.int nv')]) (rest := []) rfl rfl pd_4 rfl (Nat.le_of_ble_eq_true rfl) (Nat.le_of_ble_eq_true rfl) (Nat.le_of_ble_eq_true rfl) (Nat.le_of_ble_eq_true rfl) (hb hby at_227) (q := 230) rfl (g_pure rfl rfl fun T13 X13 e13 => ?_)
    show Go p e below _ (T13.setTop (mkF m 230 #[.val (.int p1), .val (.int sel), .val (.long raw), .second, .val (.int nv'), .val (.int (own_pick sel raw (0 : Int32))), .val (.int (own_pick sel raw (1 : Int32))), .val (.int (own_pick sel raw (2 : Int32))), .val (.int (own_pick sel raw (3 : Int32))), .val (.int (own_pick sel raw (4 : Int32))), .val (.int (own_pick sel raw (5 : Int32))), .val (.ref a11), .val (.ref got), .val (.int x13), .val (.int sv), .val (.int (own_fold (own_fold (0 : Int32) (own_pick sel raw (5 : Int32)) (5 : Int32) sv nv') (own_pick sel raw (4 : Int32)) (4 : Int32) sv nv')), .unset] [(.int (own_fold (own_fold (own_fold (0 : Int32) (own_pick sel raw (5 : Int32)) (5 : Int32) sv nv') (own_pick sel raw (4 : Int32)) (4 : Int32) sv nv') (own_pick sel raw (3 : Int32)) (3 : Int32) sv nv'))]))
    refine g_istore X13 hx (hb hby at_230) (L' := #[.val (.int p1), .val (.int sel), .val (.long raw), .second, .val (.int nv'), .val (.int (own_pick sel raw (0 : Int32))), .val (.int (own_pick sel raw (1 : Int32))), .val (.int (own_pick sel raw (2 : Int32))), .val (.int (own_pick sel raw (3 : Int32))), .val (.int (own_pick sel raw (4 : Int32))), .val (.int (own_pick sel raw (5 : Int32))), .val (.ref a11), .val (.ref got), .val (.int x13), .val (.int sv), .val (.int (own_fold (own_fold (own_fold (0 : Int32) (own_pick sel raw (5 : Int32)) (5 : Int32) sv nv') (own_pick sel raw (4 : Int32)) (4 : Int32) sv nv') (own_pick sel raw (3 : Int32)) (3 : Int32) sv nv')), .unset]) rfl (q := 232) rfl ?_
    refine g_iload X13 hx (hb hby at_232) (v := (own_fold (own_fold (own_fold (0 : Int32) (own_pick sel raw (5 : Int32)) (5 : Int32) sv nv') (own_pick sel raw (4 : Int32)) (4 : Int32) sv nv') (own_pick sel raw (3 : Int32)) (3 : Int32) sv nv')) rfl (q := 234) rfl ?_
    refine g_iload X13 hx (hb hby at_234) (v := (own_pick sel raw (2 : Int32))) rfl (q := 236) rfl ?_
    refine g_iconst X13 hx (hb hby at_236) (n := (2 : Int32)) (by decide) (q := 237) rfl ?_
    refine g_iload X13 hx (hb hby at_237) (v := sv) rfl (q := 239) rfl ?_
    refine g_iload X13 hx (hb hby at_239) (v := nv') rfl (q := 241) rfl ?_
    refine g_callS X13 hx hZ hown (hw _ (List.mem_of_getElem? (i := 14) rfl)) (hw _ (List.mem_of_getElem? (i := 15) rfl)) (hw _ (List.mem_of_getElem? (i := 3) rfl)) (hw _ (List.mem_of_getElem? (i := 16) rfl)) (by decide) e13 (rmF l Z a0 hw (own_fold (own_fold (own_fold (0 : Int32) (own_pick sel raw (5 : Int32)) (5 : Int32) sv nv') (own_pick sel raw (4 : Int32)) (4 : Int32) sv nv') (own_pick sel raw (3 : Int32)) (3 : Int32) sv nv') (own_pick sel raw (2 : Int32)) (2 : Int32) sv nv' (own_fold_or (own_fold_or (own_fold_or (Or.inl rfl) _ _ _ _) _ _ _ _) _ _ _ _) h) (by exact hml.symm) (argsL := [(.int (own_fold (own_fold (own_fold (0 : Int32) (own_pick sel raw (5 : Int32)) (5 : Int32) sv nv') (own_pick sel raw (4 : Int32)) (4 : Int32) sv nv') (own_pick sel raw (3 : Int32)) (3 : Int32) sv nv')), (.int (own_pick sel raw (2 : Int32))), (.int (2 : Int32)), (.int sv), (.int nv')]) (rest := []) rfl rfl pd_4 rfl (Nat.le_of_ble_eq_true rfl) (Nat.le_of_ble_eq_true rfl) (Nat.le_of_ble_eq_true rfl) (Nat.le_of_ble_eq_true rfl) (hb hby at_241) (q := 244) rfl (g_pure rfl rfl fun T14 X14 e14 => ?_)
    show Go p e below _ (T14.setTop (mkF m 244 #[.val (.int p1), .val (.int sel), .val (.long raw), .second, .val (.int nv'), .val (.int (own_pick sel raw (0 : Int32))), .val (.int (own_pick sel raw (1 : Int32))), .val (.int (own_pick sel raw (2 : Int32))), .val (.int (own_pick sel raw (3 : Int32))), .val (.int (own_pick sel raw (4 : Int32))), .val (.int (own_pick sel raw (5 : Int32))), .val (.ref a11), .val (.ref got), .val (.int x13), .val (.int sv), .val (.int (own_fold (own_fold (own_fold (0 : Int32) (own_pick sel raw (5 : Int32)) (5 : Int32) sv nv') (own_pick sel raw (4 : Int32)) (4 : Int32) sv nv') (own_pick sel raw (3 : Int32)) (3 : Int32) sv nv')), .unset] [(.int (own_fold (own_fold (own_fold (own_fold (0 : Int32) (own_pick sel raw (5 : Int32)) (5 : Int32) sv nv') (own_pick sel raw (4 : Int32)) (4 : Int32) sv nv') (own_pick sel raw (3 : Int32)) (3 : Int32) sv nv') (own_pick sel raw (2 : Int32)) (2 : Int32) sv nv'))]))
    refine g_istore X14 hx (hb hby at_244) (L' := #[.val (.int p1), .val (.int sel), .val (.long raw), .second, .val (.int nv'), .val (.int (own_pick sel raw (0 : Int32))), .val (.int (own_pick sel raw (1 : Int32))), .val (.int (own_pick sel raw (2 : Int32))), .val (.int (own_pick sel raw (3 : Int32))), .val (.int (own_pick sel raw (4 : Int32))), .val (.int (own_pick sel raw (5 : Int32))), .val (.ref a11), .val (.ref got), .val (.int x13), .val (.int sv), .val (.int (own_fold (own_fold (own_fold (own_fold (0 : Int32) (own_pick sel raw (5 : Int32)) (5 : Int32) sv nv') (own_pick sel raw (4 : Int32)) (4 : Int32) sv nv') (own_pick sel raw (3 : Int32)) (3 : Int32) sv nv') (own_pick sel raw (2 : Int32)) (2 : Int32) sv nv')), .unset]) rfl (q := 246) rfl ?_
    refine g_iload X14 hx (hb hby at_246) (v := (own_fold (own_fold (own_fold (own_fold (0 : Int32) (own_pick sel raw (5 : Int32)) (5 : Int32) sv nv') (own_pick sel raw (4 : Int32)) (4 : Int32) sv nv') (own_pick sel raw (3 : Int32)) (3 : Int32) sv nv') (own_pick sel raw (2 : Int32)) (2 : Int32) sv nv')) rfl (q := 248) rfl ?_
    refine g_iload X14 hx (hb hby at_248) (v := (own_pick sel raw (1 : Int32))) rfl (q := 250) rfl ?_
    refine g_iconst X14 hx (hb hby at_250) (n := (1 : Int32)) (by decide) (q := 251) rfl ?_
    refine g_iload X14 hx (hb hby at_251) (v := sv) rfl (q := 253) rfl ?_
    refine g_iload X14 hx (hb hby at_253) (v := nv') rfl (q := 255) rfl ?_
    refine g_callS X14 hx hZ hown (hw _ (List.mem_of_getElem? (i := 14) rfl)) (hw _ (List.mem_of_getElem? (i := 15) rfl)) (hw _ (List.mem_of_getElem? (i := 3) rfl)) (hw _ (List.mem_of_getElem? (i := 16) rfl)) (by decide) e14 (rmF l Z a0 hw (own_fold (own_fold (own_fold (own_fold (0 : Int32) (own_pick sel raw (5 : Int32)) (5 : Int32) sv nv') (own_pick sel raw (4 : Int32)) (4 : Int32) sv nv') (own_pick sel raw (3 : Int32)) (3 : Int32) sv nv') (own_pick sel raw (2 : Int32)) (2 : Int32) sv nv') (own_pick sel raw (1 : Int32)) (1 : Int32) sv nv' (own_fold_or (own_fold_or (own_fold_or (own_fold_or (Or.inl rfl) _ _ _ _) _ _ _ _) _ _ _ _) _ _ _ _) h) (by exact hml.symm) (argsL := [(.int (own_fold (own_fold (own_fold (own_fold (0 : Int32) (own_pick sel raw (5 : Int32)) (5 : Int32) sv nv') (own_pick sel raw (4 : Int32)) (4 : Int32) sv nv') (own_pick sel raw (3 : Int32)) (3 : Int32) sv nv') (own_pick sel raw (2 : Int32)) (2 : Int32) sv nv')), (.int (own_pick sel raw (1 : Int32))), (.int (1 : Int32)), (.int sv), (.int nv')]) (rest := []) rfl rfl pd_4 rfl (Nat.le_of_ble_eq_true rfl) (Nat.le_of_ble_eq_true rfl) (Nat.le_of_ble_eq_true rfl) (Nat.le_of_ble_eq_true rfl) (hb hby at_255) (q := 258) rfl (g_pure rfl rfl fun T15 X15 e15 => ?_)
    show Go p e below _ (T15.setTop (mkF m 258 #[.val (.int p1), .val (.int sel), .val (.long raw), .second, .val (.int nv'), .val (.int (own_pick sel raw (0 : Int32))), .val (.int (own_pick sel raw (1 : Int32))), .val (.int (own_pick sel raw (2 : Int32))), .val (.int (own_pick sel raw (3 : Int32))), .val (.int (own_pick sel raw (4 : Int32))), .val (.int (own_pick sel raw (5 : Int32))), .val (.ref a11), .val (.ref got), .val (.int x13), .val (.int sv), .val (.int (own_fold (own_fold (own_fold (own_fold (0 : Int32) (own_pick sel raw (5 : Int32)) (5 : Int32) sv nv') (own_pick sel raw (4 : Int32)) (4 : Int32) sv nv') (own_pick sel raw (3 : Int32)) (3 : Int32) sv nv') (own_pick sel raw (2 : Int32)) (2 : Int32) sv nv')), .unset] [(.int (own_fold (own_fold (own_fold (own_fold (own_fold (0 : Int32) (own_pick sel raw (5 : Int32)) (5 : Int32) sv nv') (own_pick sel raw (4 : Int32)) (4 : Int32) sv nv') (own_pick sel raw (3 : Int32)) (3 : Int32) sv nv') (own_pick sel raw (2 : Int32)) (2 : Int32) sv nv') (own_pick sel raw (1 : Int32)) (1 : Int32) sv nv'))]))
    refine g_istore X15 hx (hb hby at_258) (L' := #[.val (.int p1), .val (.int sel), .val (.long raw), .second, .val (.int nv'), .val (.int (own_pick sel raw (0 : Int32))), .val (.int (own_pick sel raw (1 : Int32))), .val (.int (own_pick sel raw (2 : Int32))), .val (.int (own_pick sel raw (3 : Int32))), .val (.int (own_pick sel raw (4 : Int32))), .val (.int (own_pick sel raw (5 : Int32))), .val (.ref a11), .val (.ref got), .val (.int x13), .val (.int sv), .val (.int (own_fold (own_fold (own_fold (own_fold (own_fold (0 : Int32) (own_pick sel raw (5 : Int32)) (5 : Int32) sv nv') (own_pick sel raw (4 : Int32)) (4 : Int32) sv nv') (own_pick sel raw (3 : Int32)) (3 : Int32) sv nv') (own_pick sel raw (2 : Int32)) (2 : Int32) sv nv') (own_pick sel raw (1 : Int32)) (1 : Int32) sv nv')), .unset]) rfl (q := 260) rfl ?_
    refine g_iload X15 hx (hb hby at_260) (v := (own_fold (own_fold (own_fold (own_fold (own_fold (0 : Int32) (own_pick sel raw (5 : Int32)) (5 : Int32) sv nv') (own_pick sel raw (4 : Int32)) (4 : Int32) sv nv') (own_pick sel raw (3 : Int32)) (3 : Int32) sv nv') (own_pick sel raw (2 : Int32)) (2 : Int32) sv nv') (own_pick sel raw (1 : Int32)) (1 : Int32) sv nv')) rfl (q := 262) rfl ?_
    refine g_iload X15 hx (hb hby at_262) (v := (own_pick sel raw (0 : Int32))) rfl (q := 264) rfl ?_
    refine g_iconst X15 hx (hb hby at_264) (n := (0 : Int32)) (by decide) (q := 265) rfl ?_
    refine g_iload X15 hx (hb hby at_265) (v := sv) rfl (q := 267) rfl ?_
    refine g_iload X15 hx (hb hby at_267) (v := nv') rfl (q := 269) rfl ?_
    refine g_callS X15 hx hZ hown (hw _ (List.mem_of_getElem? (i := 14) rfl)) (hw _ (List.mem_of_getElem? (i := 15) rfl)) (hw _ (List.mem_of_getElem? (i := 3) rfl)) (hw _ (List.mem_of_getElem? (i := 16) rfl)) (by decide) e15 (rmF l Z a0 hw (own_fold (own_fold (own_fold (own_fold (own_fold (0 : Int32) (own_pick sel raw (5 : Int32)) (5 : Int32) sv nv') (own_pick sel raw (4 : Int32)) (4 : Int32) sv nv') (own_pick sel raw (3 : Int32)) (3 : Int32) sv nv') (own_pick sel raw (2 : Int32)) (2 : Int32) sv nv') (own_pick sel raw (1 : Int32)) (1 : Int32) sv nv') (own_pick sel raw (0 : Int32)) (0 : Int32) sv nv' (own_fold_or (own_fold_or (own_fold_or (own_fold_or (own_fold_or (Or.inl rfl) _ _ _ _) _ _ _ _) _ _ _ _) _ _ _ _) _ _ _ _) h) (by exact hml.symm) (argsL := [(.int (own_fold (own_fold (own_fold (own_fold (own_fold (0 : Int32) (own_pick sel raw (5 : Int32)) (5 : Int32) sv nv') (own_pick sel raw (4 : Int32)) (4 : Int32) sv nv') (own_pick sel raw (3 : Int32)) (3 : Int32) sv nv') (own_pick sel raw (2 : Int32)) (2 : Int32) sv nv') (own_pick sel raw (1 : Int32)) (1 : Int32) sv nv')), (.int (own_pick sel raw (0 : Int32))), (.int (0 : Int32)), (.int sv), (.int nv')]) (rest := []) rfl rfl pd_4 rfl (Nat.le_of_ble_eq_true rfl) (Nat.le_of_ble_eq_true rfl) (Nat.le_of_ble_eq_true rfl) (Nat.le_of_ble_eq_true rfl) (hb hby at_269) (q := 272) rfl (g_pure rfl rfl fun T16 X16 e16 => ?_)
    show Go p e below _ (T16.setTop (mkF m 272 #[.val (.int p1), .val (.int sel), .val (.long raw), .second, .val (.int nv'), .val (.int (own_pick sel raw (0 : Int32))), .val (.int (own_pick sel raw (1 : Int32))), .val (.int (own_pick sel raw (2 : Int32))), .val (.int (own_pick sel raw (3 : Int32))), .val (.int (own_pick sel raw (4 : Int32))), .val (.int (own_pick sel raw (5 : Int32))), .val (.ref a11), .val (.ref got), .val (.int x13), .val (.int sv), .val (.int (own_fold (own_fold (own_fold (own_fold (own_fold (0 : Int32) (own_pick sel raw (5 : Int32)) (5 : Int32) sv nv') (own_pick sel raw (4 : Int32)) (4 : Int32) sv nv') (own_pick sel raw (3 : Int32)) (3 : Int32) sv nv') (own_pick sel raw (2 : Int32)) (2 : Int32) sv nv') (own_pick sel raw (1 : Int32)) (1 : Int32) sv nv')), .unset] [(.int (own_fold (own_fold (own_fold (own_fold (own_fold (own_fold (0 : Int32) (own_pick sel raw (5 : Int32)) (5 : Int32) sv nv') (own_pick sel raw (4 : Int32)) (4 : Int32) sv nv') (own_pick sel raw (3 : Int32)) (3 : Int32) sv nv') (own_pick sel raw (2 : Int32)) (2 : Int32) sv nv') (own_pick sel raw (1 : Int32)) (1 : Int32) sv nv') (own_pick sel raw (0 : Int32)) (0 : Int32) sv nv'))]))
    refine g_istore X16 hx (hb hby at_272) (L' := #[.val (.int p1), .val (.int sel), .val (.long raw), .second, .val (.int nv'), .val (.int (own_pick sel raw (0 : Int32))), .val (.int (own_pick sel raw (1 : Int32))), .val (.int (own_pick sel raw (2 : Int32))), .val (.int (own_pick sel raw (3 : Int32))), .val (.int (own_pick sel raw (4 : Int32))), .val (.int (own_pick sel raw (5 : Int32))), .val (.ref a11), .val (.ref got), .val (.int x13), .val (.int sv), .val (.int (own_fold (own_fold (own_fold (own_fold (own_fold (own_fold (0 : Int32) (own_pick sel raw (5 : Int32)) (5 : Int32) sv nv') (own_pick sel raw (4 : Int32)) (4 : Int32) sv nv') (own_pick sel raw (3 : Int32)) (3 : Int32) sv nv') (own_pick sel raw (2 : Int32)) (2 : Int32) sv nv') (own_pick sel raw (1 : Int32)) (1 : Int32) sv nv') (own_pick sel raw (0 : Int32)) (0 : Int32) sv nv')), .unset]) rfl (q := 274) rfl ?_
    refine g_iload X16 hx (hb hby at_274) (v := (own_fold (own_fold (own_fold (own_fold (own_fold (own_fold (0 : Int32) (own_pick sel raw (5 : Int32)) (5 : Int32) sv nv') (own_pick sel raw (4 : Int32)) (4 : Int32) sv nv') (own_pick sel raw (3 : Int32)) (3 : Int32) sv nv') (own_pick sel raw (2 : Int32)) (2 : Int32) sv nv') (own_pick sel raw (1 : Int32)) (1 : Int32) sv nv') (own_pick sel raw (0 : Int32)) (0 : Int32) sv nv')) rfl (q := 276) rfl ?_
    refine g_if_eq X16 hx (hb hby at_276) (by decide) (q := 285) (by decide) (q2 := 279) rfl (fun hb276 => ?_) (fun hb276 => ?_)
    · refine g_getS X16 hx hZ hown (hw _ (List.mem_of_getElem? (i := 17) rfl)) Via.refl e16 SJ' (hb hby at_285) (q := 288) rfl fun T17 X17 e17 => ?_
      refine g_astore X17 hx (hb hby at_288) rfl (L' := #[.val (.int p1), .val (.int sel), .val (.long raw), .second, .val (.int nv'), .val (.int (own_pick sel raw (0 : Int32))), .val (.int (own_pick sel raw (1 : Int32))), .val (.int (own_pick sel raw (2 : Int32))), .val (.int (own_pick sel raw (3 : Int32))), .val (.int (own_pick sel raw (4 : Int32))), .val (.int (own_pick sel raw (5 : Int32))), .val (.ref a11), .val (.ref got), .val (.int x13), .val (.int sv), .val (.int (own_fold (own_fold (own_fold (own_fold (own_fold (own_fold (0 : Int32) (own_pick sel raw (5 : Int32)) (5 : Int32) sv nv') (own_pick sel raw (4 : Int32)) (4 : Int32) sv nv') (own_pick sel raw (3 : Int32)) (3 : Int32) sv nv') (own_pick sel raw (2 : Int32)) (2 : Int32) sv nv') (own_pick sel raw (1 : Int32)) (1 : Int32) sv nv') (own_pick sel raw (0 : Int32)) (0 : Int32) sv nv')), .val (.ref wJ)]) rfl (q := 290) rfl ?_
      refine g_aload X17 hx (hb hby at_290) (v := (.ref got)) rfl rfl (q := 292) rfl ?_
      refine g_aload X17 hx (hb hby at_292) (v := (.ref wJ)) rfl rfl (q := 294) rfl ?_
      refine g_acmpNe X17 hx rfl rfl (hb hby at_294) (by decide) (q := 301) (by decide) (q2 := 297) rfl (fun hb294 => absurd hb294 (not_not_intro (congrArg Value.ref (hgot.trans (if_pos hb276))))) (fun hb294 => ?_)
      refine g_iconst X17 hx (hb hby at_297) (n := (1 : Int32)) (by decide) (q := 298) rfl ?_
      refine g_goto X17 hx (hb hby at_298) (by decide) (q := 302) (by decide) ?_
      exact g_retB X17 hx hret hlk (hb hby at_302) (by decide) ⟨rfl, N'⟩ (Nat.le_of_ble_eq_true rfl) (Nat.le_of_ble_eq_true rfl)
    · refine g_getS X16 hx hZ hown (hw _ (List.mem_of_getElem? (i := 34) rfl)) Via.refl e16 SX' (hb hby at_279) (q := 282) rfl fun T18 X18 e18 => ?_
      refine g_goto X18 hx (hb hby at_282) (by decide) (q := 288) (by decide) ?_
      refine g_astore X18 hx (hb hby at_288) rfl (L' := #[.val (.int p1), .val (.int sel), .val (.long raw), .second, .val (.int nv'), .val (.int (own_pick sel raw (0 : Int32))), .val (.int (own_pick sel raw (1 : Int32))), .val (.int (own_pick sel raw (2 : Int32))), .val (.int (own_pick sel raw (3 : Int32))), .val (.int (own_pick sel raw (4 : Int32))), .val (.int (own_pick sel raw (5 : Int32))), .val (.ref a11), .val (.ref got), .val (.int x13), .val (.int sv), .val (.int (own_fold (own_fold (own_fold (own_fold (own_fold (own_fold (0 : Int32) (own_pick sel raw (5 : Int32)) (5 : Int32) sv nv') (own_pick sel raw (4 : Int32)) (4 : Int32) sv nv') (own_pick sel raw (3 : Int32)) (3 : Int32) sv nv') (own_pick sel raw (2 : Int32)) (2 : Int32) sv nv') (own_pick sel raw (1 : Int32)) (1 : Int32) sv nv') (own_pick sel raw (0 : Int32)) (0 : Int32) sv nv')), .val (.ref wX)]) rfl (q := 290) rfl ?_
      refine g_aload X18 hx (hb hby at_290) (v := (.ref got)) rfl rfl (q := 292) rfl ?_
      refine g_aload X18 hx (hb hby at_292) (v := (.ref wX)) rfl rfl (q := 294) rfl ?_
      refine g_acmpNe X18 hx rfl rfl (hb hby at_294) (by decide) (q := 301) (by decide) (q2 := 297) rfl (fun hb294 => absurd hb294 (not_not_intro (congrArg Value.ref (hgot.trans (if_neg hb276))))) (fun hb294 => ?_)
      refine g_iconst X18 hx (hb hby at_297) (n := (1 : Int32)) (by decide) (q := 298) rfl ?_
      refine g_goto X18 hx (hb hby at_298) (by decide) (q := 302) (by decide) ?_
      exact g_retB X18 hx hret hlk (hb hby at_302) (by decide) ⟨rfl, N'⟩ (Nat.le_of_ble_eq_true rfl) (Nat.le_of_ble_eq_true rfl)
  refine g_iloadN X0 hx (hb hby at_0) (v := p1) rfl (q := 1) rfl ?_
  refine g_ldcI X0 hx hZ hown (hw _ (List.mem_of_getElem? (i := 0) rfl)) (hb hby at_1) (q := 3) rfl ?_
  refine g_iand X0 hx (hb hby at_3) (z := (p1 &&& (2147483647 : Int32))) rfl (q := 4) rfl ?_
  refine g_bipush X0 hx (hb hby at_4) (n := (7 : Int32)) (by decide) (q := 6) rfl ?_
  refine g_irem X0 hx (hb hby at_6) (by decide) (z := nv) hnv (q := 7) rfl ?_
  refine g_istore X0 hx (hb hby at_7) (L' := #[.val (.int p1), .val (.int sel), .val (.long raw), .second, .val (.int nv), .unset, .unset, .unset, .unset, .unset, .unset, .unset, .unset, .unset, .unset, .unset, .unset]) rfl (q := 9) rfl ?_
  refine g_iloadN X0 hx (hb hby at_9) (v := sel) rfl (q := 10) rfl ?_
  refine g_lloadN X0 hx (hb hby at_10) (v := raw) rfl (q := 11) rfl ?_
  refine g_iconst X0 hx (hb hby at_11) (n := (0 : Int32)) (by decide) (q := 12) rfl ?_
  refine g_callS X0 hx hZ hown (hw _ (List.mem_of_getElem? (i := 1) rfl)) (hw _ (List.mem_of_getElem? (i := 2) rfl)) (hw _ (List.mem_of_getElem? (i := 3) rfl)) (hw _ (List.mem_of_getElem? (i := 4) rfl)) (by decide) e0 (rmP l Z a0 hw sel raw (0 : Int32) h0) (by exact hml.symm) (argsL := [(.int sel), (.long raw), (.int (0 : Int32))]) (rest := []) rfl rfl pd_5 rfl (Nat.le_of_ble_eq_true rfl) (Nat.le_of_ble_eq_true rfl) (Nat.le_of_ble_eq_true rfl) (Nat.le_of_ble_eq_true rfl) (hb hby at_12) (q := 15) rfl (g_pure rfl rfl fun T19 X19 e19 => ?_)
  show Go p e below _ (T19.setTop (mkF m 15 #[.val (.int p1), .val (.int sel), .val (.long raw), .second, .val (.int nv), .unset, .unset, .unset, .unset, .unset, .unset, .unset, .unset, .unset, .unset, .unset, .unset] [(.int (own_pick sel raw (0 : Int32)))]))
  refine g_istore X19 hx (hb hby at_15) (L' := #[.val (.int p1), .val (.int sel), .val (.long raw), .second, .val (.int nv), .val (.int (own_pick sel raw (0 : Int32))), .unset, .unset, .unset, .unset, .unset, .unset, .unset, .unset, .unset, .unset, .unset]) rfl (q := 17) rfl ?_
  refine g_iloadN X19 hx (hb hby at_17) (v := sel) rfl (q := 18) rfl ?_
  refine g_lloadN X19 hx (hb hby at_18) (v := raw) rfl (q := 19) rfl ?_
  refine g_iconst X19 hx (hb hby at_19) (n := (1 : Int32)) (by decide) (q := 20) rfl ?_
  refine g_callS X19 hx hZ hown (hw _ (List.mem_of_getElem? (i := 1) rfl)) (hw _ (List.mem_of_getElem? (i := 2) rfl)) (hw _ (List.mem_of_getElem? (i := 3) rfl)) (hw _ (List.mem_of_getElem? (i := 4) rfl)) (by decide) e19 (rmP l Z a0 hw sel raw (1 : Int32) h0) (by exact hml.symm) (argsL := [(.int sel), (.long raw), (.int (1 : Int32))]) (rest := []) rfl rfl pd_5 rfl (Nat.le_of_ble_eq_true rfl) (Nat.le_of_ble_eq_true rfl) (Nat.le_of_ble_eq_true rfl) (Nat.le_of_ble_eq_true rfl) (hb hby at_20) (q := 23) rfl (g_pure rfl rfl fun T20 X20 e20 => ?_)
  show Go p e below _ (T20.setTop (mkF m 23 #[.val (.int p1), .val (.int sel), .val (.long raw), .second, .val (.int nv), .val (.int (own_pick sel raw (0 : Int32))), .unset, .unset, .unset, .unset, .unset, .unset, .unset, .unset, .unset, .unset, .unset] [(.int (own_pick sel raw (1 : Int32)))]))
  refine g_istore X20 hx (hb hby at_23) (L' := #[.val (.int p1), .val (.int sel), .val (.long raw), .second, .val (.int nv), .val (.int (own_pick sel raw (0 : Int32))), .val (.int (own_pick sel raw (1 : Int32))), .unset, .unset, .unset, .unset, .unset, .unset, .unset, .unset, .unset, .unset]) rfl (q := 25) rfl ?_
  refine g_iloadN X20 hx (hb hby at_25) (v := sel) rfl (q := 26) rfl ?_
  refine g_lloadN X20 hx (hb hby at_26) (v := raw) rfl (q := 27) rfl ?_
  refine g_iconst X20 hx (hb hby at_27) (n := (2 : Int32)) (by decide) (q := 28) rfl ?_
  refine g_callS X20 hx hZ hown (hw _ (List.mem_of_getElem? (i := 1) rfl)) (hw _ (List.mem_of_getElem? (i := 2) rfl)) (hw _ (List.mem_of_getElem? (i := 3) rfl)) (hw _ (List.mem_of_getElem? (i := 4) rfl)) (by decide) e20 (rmP l Z a0 hw sel raw (2 : Int32) h0) (by exact hml.symm) (argsL := [(.int sel), (.long raw), (.int (2 : Int32))]) (rest := []) rfl rfl pd_5 rfl (Nat.le_of_ble_eq_true rfl) (Nat.le_of_ble_eq_true rfl) (Nat.le_of_ble_eq_true rfl) (Nat.le_of_ble_eq_true rfl) (hb hby at_28) (q := 31) rfl (g_pure rfl rfl fun T21 X21 e21 => ?_)
  show Go p e below _ (T21.setTop (mkF m 31 #[.val (.int p1), .val (.int sel), .val (.long raw), .second, .val (.int nv), .val (.int (own_pick sel raw (0 : Int32))), .val (.int (own_pick sel raw (1 : Int32))), .unset, .unset, .unset, .unset, .unset, .unset, .unset, .unset, .unset, .unset] [(.int (own_pick sel raw (2 : Int32)))]))
  refine g_istore X21 hx (hb hby at_31) (L' := #[.val (.int p1), .val (.int sel), .val (.long raw), .second, .val (.int nv), .val (.int (own_pick sel raw (0 : Int32))), .val (.int (own_pick sel raw (1 : Int32))), .val (.int (own_pick sel raw (2 : Int32))), .unset, .unset, .unset, .unset, .unset, .unset, .unset, .unset, .unset]) rfl (q := 33) rfl ?_
  refine g_iloadN X21 hx (hb hby at_33) (v := sel) rfl (q := 34) rfl ?_
  refine g_lloadN X21 hx (hb hby at_34) (v := raw) rfl (q := 35) rfl ?_
  refine g_iconst X21 hx (hb hby at_35) (n := (3 : Int32)) (by decide) (q := 36) rfl ?_
  refine g_callS X21 hx hZ hown (hw _ (List.mem_of_getElem? (i := 1) rfl)) (hw _ (List.mem_of_getElem? (i := 2) rfl)) (hw _ (List.mem_of_getElem? (i := 3) rfl)) (hw _ (List.mem_of_getElem? (i := 4) rfl)) (by decide) e21 (rmP l Z a0 hw sel raw (3 : Int32) h0) (by exact hml.symm) (argsL := [(.int sel), (.long raw), (.int (3 : Int32))]) (rest := []) rfl rfl pd_5 rfl (Nat.le_of_ble_eq_true rfl) (Nat.le_of_ble_eq_true rfl) (Nat.le_of_ble_eq_true rfl) (Nat.le_of_ble_eq_true rfl) (hb hby at_36) (q := 39) rfl (g_pure rfl rfl fun T22 X22 e22 => ?_)
  show Go p e below _ (T22.setTop (mkF m 39 #[.val (.int p1), .val (.int sel), .val (.long raw), .second, .val (.int nv), .val (.int (own_pick sel raw (0 : Int32))), .val (.int (own_pick sel raw (1 : Int32))), .val (.int (own_pick sel raw (2 : Int32))), .unset, .unset, .unset, .unset, .unset, .unset, .unset, .unset, .unset] [(.int (own_pick sel raw (3 : Int32)))]))
  refine g_istore X22 hx (hb hby at_39) (L' := #[.val (.int p1), .val (.int sel), .val (.long raw), .second, .val (.int nv), .val (.int (own_pick sel raw (0 : Int32))), .val (.int (own_pick sel raw (1 : Int32))), .val (.int (own_pick sel raw (2 : Int32))), .val (.int (own_pick sel raw (3 : Int32))), .unset, .unset, .unset, .unset, .unset, .unset, .unset, .unset]) rfl (q := 41) rfl ?_
  refine g_iloadN X22 hx (hb hby at_41) (v := sel) rfl (q := 42) rfl ?_
  refine g_lloadN X22 hx (hb hby at_42) (v := raw) rfl (q := 43) rfl ?_
  refine g_iconst X22 hx (hb hby at_43) (n := (4 : Int32)) (by decide) (q := 44) rfl ?_
  refine g_callS X22 hx hZ hown (hw _ (List.mem_of_getElem? (i := 1) rfl)) (hw _ (List.mem_of_getElem? (i := 2) rfl)) (hw _ (List.mem_of_getElem? (i := 3) rfl)) (hw _ (List.mem_of_getElem? (i := 4) rfl)) (by decide) e22 (rmP l Z a0 hw sel raw (4 : Int32) h0) (by exact hml.symm) (argsL := [(.int sel), (.long raw), (.int (4 : Int32))]) (rest := []) rfl rfl pd_5 rfl (Nat.le_of_ble_eq_true rfl) (Nat.le_of_ble_eq_true rfl) (Nat.le_of_ble_eq_true rfl) (Nat.le_of_ble_eq_true rfl) (hb hby at_44) (q := 47) rfl (g_pure rfl rfl fun T23 X23 e23 => ?_)
  show Go p e below _ (T23.setTop (mkF m 47 #[.val (.int p1), .val (.int sel), .val (.long raw), .second, .val (.int nv), .val (.int (own_pick sel raw (0 : Int32))), .val (.int (own_pick sel raw (1 : Int32))), .val (.int (own_pick sel raw (2 : Int32))), .val (.int (own_pick sel raw (3 : Int32))), .unset, .unset, .unset, .unset, .unset, .unset, .unset, .unset] [(.int (own_pick sel raw (4 : Int32)))]))
  refine g_istore X23 hx (hb hby at_47) (L' := #[.val (.int p1), .val (.int sel), .val (.long raw), .second, .val (.int nv), .val (.int (own_pick sel raw (0 : Int32))), .val (.int (own_pick sel raw (1 : Int32))), .val (.int (own_pick sel raw (2 : Int32))), .val (.int (own_pick sel raw (3 : Int32))), .val (.int (own_pick sel raw (4 : Int32))), .unset, .unset, .unset, .unset, .unset, .unset, .unset]) rfl (q := 49) rfl ?_
  refine g_iloadN X23 hx (hb hby at_49) (v := sel) rfl (q := 50) rfl ?_
  refine g_lloadN X23 hx (hb hby at_50) (v := raw) rfl (q := 51) rfl ?_
  refine g_iconst X23 hx (hb hby at_51) (n := (5 : Int32)) (by decide) (q := 52) rfl ?_
  refine g_callS X23 hx hZ hown (hw _ (List.mem_of_getElem? (i := 1) rfl)) (hw _ (List.mem_of_getElem? (i := 2) rfl)) (hw _ (List.mem_of_getElem? (i := 3) rfl)) (hw _ (List.mem_of_getElem? (i := 4) rfl)) (by decide) e23 (rmP l Z a0 hw sel raw (5 : Int32) h0) (by exact hml.symm) (argsL := [(.int sel), (.long raw), (.int (5 : Int32))]) (rest := []) rfl rfl pd_5 rfl (Nat.le_of_ble_eq_true rfl) (Nat.le_of_ble_eq_true rfl) (Nat.le_of_ble_eq_true rfl) (Nat.le_of_ble_eq_true rfl) (hb hby at_52) (q := 55) rfl (g_pure rfl rfl fun T24 X24 e24 => ?_)
  show Go p e below _ (T24.setTop (mkF m 55 #[.val (.int p1), .val (.int sel), .val (.long raw), .second, .val (.int nv), .val (.int (own_pick sel raw (0 : Int32))), .val (.int (own_pick sel raw (1 : Int32))), .val (.int (own_pick sel raw (2 : Int32))), .val (.int (own_pick sel raw (3 : Int32))), .val (.int (own_pick sel raw (4 : Int32))), .unset, .unset, .unset, .unset, .unset, .unset, .unset] [(.int (own_pick sel raw (5 : Int32)))]))
  refine g_istore X24 hx (hb hby at_55) (L' := #[.val (.int p1), .val (.int sel), .val (.long raw), .second, .val (.int nv), .val (.int (own_pick sel raw (0 : Int32))), .val (.int (own_pick sel raw (1 : Int32))), .val (.int (own_pick sel raw (2 : Int32))), .val (.int (own_pick sel raw (3 : Int32))), .val (.int (own_pick sel raw (4 : Int32))), .val (.int (own_pick sel raw (5 : Int32))), .unset, .unset, .unset, .unset, .unset, .unset]) rfl (q := 57) rfl ?_
  rcases hcase with rfl | rfl | rfl | rfl | rfl | rfl | rfl
  · refine g_iload X24 hx (hb hby at_57) (v := (0 : Int32)) rfl (q := 59) rfl ?_
    refine g_newP X24 hx hZ (hw _ (List.mem_of_getElem? (i := 5) rfl)) e24 (hb hby at_59) (n := (0 : Int32)) (by decide) (cap := 6) (Nat.le_of_ble_eq_true rfl) (by decide) (Nat.le_of_ble_eq_true rfl) (Nat.le_of_ble_eq_true rfl) (q := 61) rfl fun T25 h25 c25 b g25 X25 e25 E25 A25 => ?_
    have ne_bm_b : bm ≠ b := Nat.ne_of_lt (Nat.lt_of_lt_of_le VM.lt (Nat.le_of_eq g25.symm))
    have ge_b : n0 ≤ b := Nat.le_trans Z0 (Nat.le_of_eq g25.symm)
    have z_25 := Nat.le_trans Z0 E25.1
    have f26 := (VM.ext E25)
    have f27 := (SB.ext E25)
    have f28 := (SX.ext E25)
    have f29 := (SJ.ext E25)
    have V25 : Af Z h25 b .byte 0 (fun _ => (.int (0 : Int32))) := Af.fresh A25
    refine g_astore X25 hx (hb hby at_61) rfl (L' := #[.val (.int p1), .val (.int sel), .val (.long raw), .second, .val (.int (0 : Int32)), .val (.int (own_pick sel raw (0 : Int32))), .val (.int (own_pick sel raw (1 : Int32))), .val (.int (own_pick sel raw (2 : Int32))), .val (.int (own_pick sel raw (3 : Int32))), .val (.int (own_pick sel raw (4 : Int32))), .val (.int (own_pick sel raw (5 : Int32))), .val (.ref b), .unset, .unset, .unset, .unset, .unset]) rfl (q := 63) rfl ?_
    refine g_iload X25 hx (hb hby at_63) (v := (0 : Int32)) rfl (q := 65) rfl ?_
    refine g_if_le X25 hx (hb hby at_65) (by decide) (q := 74) (by decide) (q2 := 68) rfl (fun hb65 => ?_) (fun hb65 => absurd hb65 (by decide))
    refine g_iload X25 hx (hb hby at_74) (v := (0 : Int32)) rfl (q := 76) rfl ?_
    refine g_iconst X25 hx (hb hby at_76) (n := (1 : Int32)) (by decide) (q := 77) rfl ?_
    refine g_icmp_le X25 hx (hb hby at_77) (by decide) (q := 86) (by decide) (q2 := 80) rfl (fun hb77 => ?_) (fun hb77 => absurd hb77 (by decide))
    refine g_iload X25 hx (hb hby at_86) (v := (0 : Int32)) rfl (q := 88) rfl ?_
    refine g_iconst X25 hx (hb hby at_88) (n := (2 : Int32)) (by decide) (q := 89) rfl ?_
    refine g_icmp_le X25 hx (hb hby at_89) (by decide) (q := 98) (by decide) (q2 := 92) rfl (fun hb89 => ?_) (fun hb89 => absurd hb89 (by decide))
    refine g_iload X25 hx (hb hby at_98) (v := (0 : Int32)) rfl (q := 100) rfl ?_
    refine g_iconst X25 hx (hb hby at_100) (n := (3 : Int32)) (by decide) (q := 101) rfl ?_
    refine g_icmp_le X25 hx (hb hby at_101) (by decide) (q := 110) (by decide) (q2 := 104) rfl (fun hb101 => ?_) (fun hb101 => absurd hb101 (by decide))
    refine g_iload X25 hx (hb hby at_110) (v := (0 : Int32)) rfl (q := 112) rfl ?_
    refine g_iconst X25 hx (hb hby at_112) (n := (4 : Int32)) (by decide) (q := 113) rfl ?_
    refine g_icmp_le X25 hx (hb hby at_113) (by decide) (q := 122) (by decide) (q2 := 116) rfl (fun hb113 => ?_) (fun hb113 => absurd hb113 (by decide))
    refine g_iload X25 hx (hb hby at_122) (v := (0 : Int32)) rfl (q := 124) rfl ?_
    refine g_iconst X25 hx (hb hby at_124) (n := (5 : Int32)) (by decide) (q := 125) rfl ?_
    refine g_icmp_le X25 hx (hb hby at_125) (by decide) (q := 134) (by decide) (q2 := 128) rfl (fun hb125 => ?_) (fun hb125 => absurd hb125 (by decide))
    refine g_aload X25 hx (hb hby at_134) (v := (.ref b)) rfl rfl (q := 136) rfl ?_
    have V30 : Af Z h25 b .byte 0 (fun i => .int (own_F sel raw i)) := by
      refine Af.congr V25 fun i hi => ?_
      omega
    refine g_callS X25 hx hZ hown (hw _ (List.mem_of_getElem? (i := 6) rfl)) (hw _ (List.mem_of_getElem? (i := 7) rfl)) (hw _ (List.mem_of_getElem? (i := 8) rfl)) (hw _ (List.mem_of_getElem? (i := 9) rfl)) (by decide) e25 (rmO l Z a0 hw b bm wX wJ (own_F sel raw) 0 (by decide) h25 V30 f26 f27 f28 f29) (by exact hml.symm) (argsL := [(.ref b)]) (rest := []) rfl rfl pd_6 rfl (Nat.le_of_ble_eq_true rfl) (Nat.le_of_ble_eq_true rfl) (Nat.le_of_ble_eq_true rfl) (Nat.le_of_ble_eq_true rfl) (hb hby at_136) (q := 139) rfl (g_pure rfl rfl fun T31 X31 e31 => ?_)
    show Go p e below _ (T31.setTop (mkF m 139 #[.val (.int p1), .val (.int sel), .val (.long raw), .second, .val (.int (0 : Int32)), .val (.int (own_pick sel raw (0 : Int32))), .val (.int (own_pick sel raw (1 : Int32))), .val (.int (own_pick sel raw (2 : Int32))), .val (.int (own_pick sel raw (3 : Int32))), .val (.int (own_pick sel raw (4 : Int32))), .val (.int (own_pick sel raw (5 : Int32))), .val (.ref b), .unset, .unset, .unset, .unset, .unset] [(.ref (if own_of (own_F sel raw) 0 then wX else wJ))]))
    refine g_astore X31 hx (hb hby at_139) rfl (L' := #[.val (.int p1), .val (.int sel), .val (.long raw), .second, .val (.int (0 : Int32)), .val (.int (own_pick sel raw (0 : Int32))), .val (.int (own_pick sel raw (1 : Int32))), .val (.int (own_pick sel raw (2 : Int32))), .val (.int (own_pick sel raw (3 : Int32))), .val (.int (own_pick sel raw (4 : Int32))), .val (.int (own_pick sel raw (5 : Int32))), .val (.ref b), .val (.ref (if own_of (own_F sel raw) 0 then wX else wJ)), .unset, .unset, .unset, .unset]) rfl (q := 141) rfl ?_
    refine g_iload X31 hx (hb hby at_141) (v := (0 : Int32)) rfl (q := 143) rfl ?_
    refine g_iconst X31 hx (hb hby at_143) (n := (3 : Int32)) (by decide) (q := 144) rfl ?_
    refine g_icmp_lt X31 hx (hb hby at_144) (by decide) (q := 172) (by decide) (q2 := 147) rfl (fun hb144 => ?_) (fun hb144 => absurd hb144 (by decide))
    refine g_iconst X31 hx (hb hby at_172) (n := (0 : Int32)) (by decide) (q := 173) rfl ?_
    refine g_istore X31 hx (hb hby at_173) (L' := #[.val (.int p1), .val (.int sel), .val (.long raw), .second, .val (.int (0 : Int32)), .val (.int (own_pick sel raw (0 : Int32))), .val (.int (own_pick sel raw (1 : Int32))), .val (.int (own_pick sel raw (2 : Int32))), .val (.int (own_pick sel raw (3 : Int32))), .val (.int (own_pick sel raw (4 : Int32))), .val (.int (own_pick sel raw (5 : Int32))), .val (.ref b), .val (.ref (if own_of (own_F sel raw) 0 then wX else wJ)), .val (.int (0 : Int32)), .unset, .unset, .unset]) rfl (q := 175) rfl ?_
    refine g_iload X31 hx (hb hby at_175) (v := (0 : Int32)) rfl (q := 177) rfl ?_
    refine g_if_eq X31 hx (hb hby at_177) (by decide) (q := 184) (by decide) (q2 := 180) rfl (fun hb177 => ?_) (fun hb177 => absurd hb177 (by decide))
    refine g_iconst X31 hx (hb hby at_184) (n := (0 : Int32)) (by decide) (q := 185) rfl ?_
    refine g_istore X31 hx (hb hby at_185) (L' := #[.val (.int p1), .val (.int sel), .val (.long raw), .second, .val (.int (0 : Int32)), .val (.int (own_pick sel raw (0 : Int32))), .val (.int (own_pick sel raw (1 : Int32))), .val (.int (own_pick sel raw (2 : Int32))), .val (.int (own_pick sel raw (3 : Int32))), .val (.int (own_pick sel raw (4 : Int32))), .val (.int (own_pick sel raw (5 : Int32))), .val (.ref b), .val (.ref (if own_of (own_F sel raw) 0 then wX else wJ)), .val (.int (0 : Int32)), .val (.int (0 : Int32)), .unset, .unset]) rfl (q := 187) rfl ?_
    have hst : own_st (own_F sel raw) 0 = 0 := rfl
    have hof : own_of (own_F sel raw) 0 = own_scan (own_F sel raw) (0 - 0) 0 := by
      show own_scan (own_F sel raw) (0 - own_st (own_F sel raw) 0) (own_st (own_F sel raw) 0) = _
      rw [hst]
    have hch : own_chain (own_F sel raw) (0 : Int32) (0 : Int32) = if own_of (own_F sel raw) 0 then 1 else 0 := by
      rw [hof]; exact own_chain_of (own_F sel raw) 0 0 (by decide) (by decide) (by decide)
    exact J187 _ _ _ _ _ _ _ _ X31 e31 (Fr.nil n0) f28 f29 (own_got hch)
  · refine g_iload X24 hx (hb hby at_57) (v := (1 : Int32)) rfl (q := 59) rfl ?_
    refine g_newP X24 hx hZ (hw _ (List.mem_of_getElem? (i := 5) rfl)) e24 (hb hby at_59) (n := (1 : Int32)) (by decide) (cap := 6) (Nat.le_of_ble_eq_true rfl) (by decide) (Nat.le_of_ble_eq_true rfl) (Nat.le_of_ble_eq_true rfl) (q := 61) rfl fun T32 h32 c32 b g32 X32 e32 E32 A32 => ?_
    have ne_bm_b : bm ≠ b := Nat.ne_of_lt (Nat.lt_of_lt_of_le VM.lt (Nat.le_of_eq g32.symm))
    have ge_b : n0 ≤ b := Nat.le_trans Z0 (Nat.le_of_eq g32.symm)
    have z_32 := Nat.le_trans Z0 E32.1
    have f33 := (VM.ext E32)
    have f34 := (SB.ext E32)
    have f35 := (SX.ext E32)
    have f36 := (SJ.ext E32)
    have V32 : Af Z h32 b .byte 1 (fun _ => (.int (0 : Int32))) := Af.fresh A32
    refine g_astore X32 hx (hb hby at_61) rfl (L' := #[.val (.int p1), .val (.int sel), .val (.long raw), .second, .val (.int (1 : Int32)), .val (.int (own_pick sel raw (0 : Int32))), .val (.int (own_pick sel raw (1 : Int32))), .val (.int (own_pick sel raw (2 : Int32))), .val (.int (own_pick sel raw (3 : Int32))), .val (.int (own_pick sel raw (4 : Int32))), .val (.int (own_pick sel raw (5 : Int32))), .val (.ref b), .unset, .unset, .unset, .unset, .unset]) rfl (q := 63) rfl ?_
    refine g_iload X32 hx (hb hby at_63) (v := (1 : Int32)) rfl (q := 65) rfl ?_
    refine g_if_le X32 hx (hb hby at_65) (by decide) (q := 74) (by decide) (q2 := 68) rfl (fun hb65 => absurd hb65 (by decide)) (fun hb65 => ?_)
    refine g_aload X32 hx (hb hby at_68) (v := (.ref b)) rfl rfl (q := 70) rfl ?_
    refine g_iconst X32 hx (hb hby at_70) (n := (0 : Int32)) (by decide) (q := 71) rfl ?_
    refine g_iload X32 hx (hb hby at_71) (v := (own_pick sel raw (0 : Int32))) rfl (q := 73) rfl ?_
    refine g_bastore X32 hx hZ e32 V32 (by decide) (by decide) (y := own_pick sel raw (0 : Int32)) (own_pick_nar _ _ _) (hb hby at_73) (q := 74) rfl fun T37 h37 X37 e37 W37 U37 => ?_
    have N37 := Fr.snoc X37 (Fr.nil n0) ge_b
    have z_37 := Nat.le_trans z_32 (Keep.of_wr W37).1
    have f38 := (f33.other W37 ne_bm_b)
    have f39 := (f34.wr W37)
    have f40 := (f35.wr W37)
    have f41 := (f36.wr W37)
    refine g_iload X37 hx (hb hby at_74) (v := (1 : Int32)) rfl (q := 76) rfl ?_
    refine g_iconst X37 hx (hb hby at_76) (n := (1 : Int32)) (by decide) (q := 77) rfl ?_
    refine g_icmp_le X37 hx (hb hby at_77) (by decide) (q := 86) (by decide) (q2 := 80) rfl (fun hb77 => ?_) (fun hb77 => absurd hb77 (by decide))
    refine g_iload X37 hx (hb hby at_86) (v := (1 : Int32)) rfl (q := 88) rfl ?_
    refine g_iconst X37 hx (hb hby at_88) (n := (2 : Int32)) (by decide) (q := 89) rfl ?_
    refine g_icmp_le X37 hx (hb hby at_89) (by decide) (q := 98) (by decide) (q2 := 92) rfl (fun hb89 => ?_) (fun hb89 => absurd hb89 (by decide))
    refine g_iload X37 hx (hb hby at_98) (v := (1 : Int32)) rfl (q := 100) rfl ?_
    refine g_iconst X37 hx (hb hby at_100) (n := (3 : Int32)) (by decide) (q := 101) rfl ?_
    refine g_icmp_le X37 hx (hb hby at_101) (by decide) (q := 110) (by decide) (q2 := 104) rfl (fun hb101 => ?_) (fun hb101 => absurd hb101 (by decide))
    refine g_iload X37 hx (hb hby at_110) (v := (1 : Int32)) rfl (q := 112) rfl ?_
    refine g_iconst X37 hx (hb hby at_112) (n := (4 : Int32)) (by decide) (q := 113) rfl ?_
    refine g_icmp_le X37 hx (hb hby at_113) (by decide) (q := 122) (by decide) (q2 := 116) rfl (fun hb113 => ?_) (fun hb113 => absurd hb113 (by decide))
    refine g_iload X37 hx (hb hby at_122) (v := (1 : Int32)) rfl (q := 124) rfl ?_
    refine g_iconst X37 hx (hb hby at_124) (n := (5 : Int32)) (by decide) (q := 125) rfl ?_
    refine g_icmp_le X37 hx (hb hby at_125) (by decide) (q := 134) (by decide) (q2 := 128) rfl (fun hb125 => ?_) (fun hb125 => absurd hb125 (by decide))
    refine g_aload X37 hx (hb hby at_134) (v := (.ref b)) rfl rfl (q := 136) rfl ?_
    have V42 : Af Z h37 b .byte 1 (fun i => .int (own_F sel raw i)) := by
      refine Af.congr U37 fun i hi => ?_
      rcases (by omega : i = 0) with rfl <;> rfl
    refine g_callS X37 hx hZ hown (hw _ (List.mem_of_getElem? (i := 6) rfl)) (hw _ (List.mem_of_getElem? (i := 7) rfl)) (hw _ (List.mem_of_getElem? (i := 8) rfl)) (hw _ (List.mem_of_getElem? (i := 9) rfl)) (by decide) e37 (rmO l Z a0 hw b bm wX wJ (own_F sel raw) 1 (by decide) h37 V42 f38 f39 f40 f41) (by exact hml.symm) (argsL := [(.ref b)]) (rest := []) rfl rfl pd_6 rfl (Nat.le_of_ble_eq_true rfl) (Nat.le_of_ble_eq_true rfl) (Nat.le_of_ble_eq_true rfl) (Nat.le_of_ble_eq_true rfl) (hb hby at_136) (q := 139) rfl (g_pure rfl rfl fun T43 X43 e43 => ?_)
    show Go p e below _ (T43.setTop (mkF m 139 #[.val (.int p1), .val (.int sel), .val (.long raw), .second, .val (.int (1 : Int32)), .val (.int (own_pick sel raw (0 : Int32))), .val (.int (own_pick sel raw (1 : Int32))), .val (.int (own_pick sel raw (2 : Int32))), .val (.int (own_pick sel raw (3 : Int32))), .val (.int (own_pick sel raw (4 : Int32))), .val (.int (own_pick sel raw (5 : Int32))), .val (.ref b), .unset, .unset, .unset, .unset, .unset] [(.ref (if own_of (own_F sel raw) 1 then wX else wJ))]))
    refine g_astore X43 hx (hb hby at_139) rfl (L' := #[.val (.int p1), .val (.int sel), .val (.long raw), .second, .val (.int (1 : Int32)), .val (.int (own_pick sel raw (0 : Int32))), .val (.int (own_pick sel raw (1 : Int32))), .val (.int (own_pick sel raw (2 : Int32))), .val (.int (own_pick sel raw (3 : Int32))), .val (.int (own_pick sel raw (4 : Int32))), .val (.int (own_pick sel raw (5 : Int32))), .val (.ref b), .val (.ref (if own_of (own_F sel raw) 1 then wX else wJ)), .unset, .unset, .unset, .unset]) rfl (q := 141) rfl ?_
    refine g_iload X43 hx (hb hby at_141) (v := (1 : Int32)) rfl (q := 143) rfl ?_
    refine g_iconst X43 hx (hb hby at_143) (n := (3 : Int32)) (by decide) (q := 144) rfl ?_
    refine g_icmp_lt X43 hx (hb hby at_144) (by decide) (q := 172) (by decide) (q2 := 147) rfl (fun hb144 => ?_) (fun hb144 => absurd hb144 (by decide))
    refine g_iconst X43 hx (hb hby at_172) (n := (0 : Int32)) (by decide) (q := 173) rfl ?_
    refine g_istore X43 hx (hb hby at_173) (L' := #[.val (.int p1), .val (.int sel), .val (.long raw), .second, .val (.int (1 : Int32)), .val (.int (own_pick sel raw (0 : Int32))), .val (.int (own_pick sel raw (1 : Int32))), .val (.int (own_pick sel raw (2 : Int32))), .val (.int (own_pick sel raw (3 : Int32))), .val (.int (own_pick sel raw (4 : Int32))), .val (.int (own_pick sel raw (5 : Int32))), .val (.ref b), .val (.ref (if own_of (own_F sel raw) 1 then wX else wJ)), .val (.int (0 : Int32)), .unset, .unset, .unset]) rfl (q := 175) rfl ?_
    refine g_iload X43 hx (hb hby at_175) (v := (0 : Int32)) rfl (q := 177) rfl ?_
    refine g_if_eq X43 hx (hb hby at_177) (by decide) (q := 184) (by decide) (q2 := 180) rfl (fun hb177 => ?_) (fun hb177 => absurd hb177 (by decide))
    refine g_iconst X43 hx (hb hby at_184) (n := (0 : Int32)) (by decide) (q := 185) rfl ?_
    refine g_istore X43 hx (hb hby at_185) (L' := #[.val (.int p1), .val (.int sel), .val (.long raw), .second, .val (.int (1 : Int32)), .val (.int (own_pick sel raw (0 : Int32))), .val (.int (own_pick sel raw (1 : Int32))), .val (.int (own_pick sel raw (2 : Int32))), .val (.int (own_pick sel raw (3 : Int32))), .val (.int (own_pick sel raw (4 : Int32))), .val (.int (own_pick sel raw (5 : Int32))), .val (.ref b), .val (.ref (if own_of (own_F sel raw) 1 then wX else wJ)), .val (.int (0 : Int32)), .val (.int (0 : Int32)), .unset, .unset]) rfl (q := 187) rfl ?_
    have hst : own_st (own_F sel raw) 1 = 0 := rfl
    have hof : own_of (own_F sel raw) 1 = own_scan (own_F sel raw) (1 - 0) 0 := by
      show own_scan (own_F sel raw) (1 - own_st (own_F sel raw) 1) (own_st (own_F sel raw) 1) = _
      rw [hst]
    have hch : own_chain (own_F sel raw) (0 : Int32) (1 : Int32) = if own_of (own_F sel raw) 1 then 1 else 0 := by
      rw [hof]; exact own_chain_of (own_F sel raw) 1 0 (by decide) (by decide) (by decide)
    exact J187 _ _ _ _ _ _ _ _ X43 e43 N37 f40 f41 (own_got hch)
  · refine g_iload X24 hx (hb hby at_57) (v := (2 : Int32)) rfl (q := 59) rfl ?_
    refine g_newP X24 hx hZ (hw _ (List.mem_of_getElem? (i := 5) rfl)) e24 (hb hby at_59) (n := (2 : Int32)) (by decide) (cap := 6) (Nat.le_of_ble_eq_true rfl) (by decide) (Nat.le_of_ble_eq_true rfl) (Nat.le_of_ble_eq_true rfl) (q := 61) rfl fun T44 h44 c44 b g44 X44 e44 E44 A44 => ?_
    have ne_bm_b : bm ≠ b := Nat.ne_of_lt (Nat.lt_of_lt_of_le VM.lt (Nat.le_of_eq g44.symm))
    have ge_b : n0 ≤ b := Nat.le_trans Z0 (Nat.le_of_eq g44.symm)
    have z_44 := Nat.le_trans Z0 E44.1
    have f45 := (VM.ext E44)
    have f46 := (SB.ext E44)
    have f47 := (SX.ext E44)
    have f48 := (SJ.ext E44)
    have V44 : Af Z h44 b .byte 2 (fun _ => (.int (0 : Int32))) := Af.fresh A44
    refine g_astore X44 hx (hb hby at_61) rfl (L' := #[.val (.int p1), .val (.int sel), .val (.long raw), .second, .val (.int (2 : Int32)), .val (.int (own_pick sel raw (0 : Int32))), .val (.int (own_pick sel raw (1 : Int32))), .val (.int (own_pick sel raw (2 : Int32))), .val (.int (own_pick sel raw (3 : Int32))), .val (.int (own_pick sel raw (4 : Int32))), .val (.int (own_pick sel raw (5 : Int32))), .val (.ref b), .unset, .unset, .unset, .unset, .unset]) rfl (q := 63) rfl ?_
    refine g_iload X44 hx (hb hby at_63) (v := (2 : Int32)) rfl (q := 65) rfl ?_
    refine g_if_le X44 hx (hb hby at_65) (by decide) (q := 74) (by decide) (q2 := 68) rfl (fun hb65 => absurd hb65 (by decide)) (fun hb65 => ?_)
    refine g_aload X44 hx (hb hby at_68) (v := (.ref b)) rfl rfl (q := 70) rfl ?_
    refine g_iconst X44 hx (hb hby at_70) (n := (0 : Int32)) (by decide) (q := 71) rfl ?_
    refine g_iload X44 hx (hb hby at_71) (v := (own_pick sel raw (0 : Int32))) rfl (q := 73) rfl ?_
    refine g_bastore X44 hx hZ e44 V44 (by decide) (by decide) (y := own_pick sel raw (0 : Int32)) (own_pick_nar _ _ _) (hb hby at_73) (q := 74) rfl fun T49 h49 X49 e49 W49 U49 => ?_
    have N49 := Fr.snoc X49 (Fr.nil n0) ge_b
    have z_49 := Nat.le_trans z_44 (Keep.of_wr W49).1
    have f50 := (f45.other W49 ne_bm_b)
    have f51 := (f46.wr W49)
    have f52 := (f47.wr W49)
    have f53 := (f48.wr W49)
    refine g_iload X49 hx (hb hby at_74) (v := (2 : Int32)) rfl (q := 76) rfl ?_
    refine g_iconst X49 hx (hb hby at_76) (n := (1 : Int32)) (by decide) (q := 77) rfl ?_
    refine g_icmp_le X49 hx (hb hby at_77) (by decide) (q := 86) (by decide) (q2 := 80) rfl (fun hb77 => absurd hb77 (by decide)) (fun hb77 => ?_)
    refine g_aload X49 hx (hb hby at_80) (v := (.ref b)) rfl rfl (q := 82) rfl ?_
    refine g_iconst X49 hx (hb hby at_82) (n := (1 : Int32)) (by decide) (q := 83) rfl ?_
    refine g_iload X49 hx (hb hby at_83) (v := (own_pick sel raw (1 : Int32))) rfl (q := 85) rfl ?_
    refine g_bastore X49 hx hZ e49 U49 (by decide) (by decide) (y := own_pick sel raw (1 : Int32)) (own_pick_nar _ _ _) (hb hby at_85) (q := 86) rfl fun T54 h54 X54 e54 W54 U54 => ?_
    have N54 := Fr.snoc X54 N49 ge_b
    have z_54 := Nat.le_trans z_49 (Keep.of_wr W54).1
    have f55 := (f50.other W54 ne_bm_b)
    have f56 := (f51.wr W54)
    have f57 := (f52.wr W54)
    have f58 := (f53.wr W54)
    refine g_iload X54 hx (hb hby at_86) (v := (2 : Int32)) rfl (q := 88) rfl ?_
    refine g_iconst X54 hx (hb hby at_88) (n := (2 : Int32)) (by decide) (q := 89) rfl ?_
    refine g_icmp_le X54 hx (hb hby at_89) (by decide) (q := 98) (by decide) (q2 := 92) rfl (fun hb89 => ?_) (fun hb89 => absurd hb89 (by decide))
    refine g_iload X54 hx (hb hby at_98) (v := (2 : Int32)) rfl (q := 100) rfl ?_
    refine g_iconst X54 hx (hb hby at_100) (n := (3 : Int32)) (by decide) (q := 101) rfl ?_
    refine g_icmp_le X54 hx (hb hby at_101) (by decide) (q := 110) (by decide) (q2 := 104) rfl (fun hb101 => ?_) (fun hb101 => absurd hb101 (by decide))
    refine g_iload X54 hx (hb hby at_110) (v := (2 : Int32)) rfl (q := 112) rfl ?_
    refine g_iconst X54 hx (hb hby at_112) (n := (4 : Int32)) (by decide) (q := 113) rfl ?_
    refine g_icmp_le X54 hx (hb hby at_113) (by decide) (q := 122) (by decide) (q2 := 116) rfl (fun hb113 => ?_) (fun hb113 => absurd hb113 (by decide))
    refine g_iload X54 hx (hb hby at_122) (v := (2 : Int32)) rfl (q := 124) rfl ?_
    refine g_iconst X54 hx (hb hby at_124) (n := (5 : Int32)) (by decide) (q := 125) rfl ?_
    refine g_icmp_le X54 hx (hb hby at_125) (by decide) (q := 134) (by decide) (q2 := 128) rfl (fun hb125 => ?_) (fun hb125 => absurd hb125 (by decide))
    refine g_aload X54 hx (hb hby at_134) (v := (.ref b)) rfl rfl (q := 136) rfl ?_
    have V59 : Af Z h54 b .byte 2 (fun i => .int (own_F sel raw i)) := by
      refine Af.congr U54 fun i hi => ?_
      rcases (by omega : i = 0 ∨ i = 1) with rfl | rfl <;> rfl
    refine g_callS X54 hx hZ hown (hw _ (List.mem_of_getElem? (i := 6) rfl)) (hw _ (List.mem_of_getElem? (i := 7) rfl)) (hw _ (List.mem_of_getElem? (i := 8) rfl)) (hw _ (List.mem_of_getElem? (i := 9) rfl)) (by decide) e54 (rmO l Z a0 hw b bm wX wJ (own_F sel raw) 2 (by decide) h54 V59 f55 f56 f57 f58) (by exact hml.symm) (argsL := [(.ref b)]) (rest := []) rfl rfl pd_6 rfl (Nat.le_of_ble_eq_true rfl) (Nat.le_of_ble_eq_true rfl) (Nat.le_of_ble_eq_true rfl) (Nat.le_of_ble_eq_true rfl) (hb hby at_136) (q := 139) rfl (g_pure rfl rfl fun T60 X60 e60 => ?_)
    show Go p e below _ (T60.setTop (mkF m 139 #[.val (.int p1), .val (.int sel), .val (.long raw), .second, .val (.int (2 : Int32)), .val (.int (own_pick sel raw (0 : Int32))), .val (.int (own_pick sel raw (1 : Int32))), .val (.int (own_pick sel raw (2 : Int32))), .val (.int (own_pick sel raw (3 : Int32))), .val (.int (own_pick sel raw (4 : Int32))), .val (.int (own_pick sel raw (5 : Int32))), .val (.ref b), .unset, .unset, .unset, .unset, .unset] [(.ref (if own_of (own_F sel raw) 2 then wX else wJ))]))
    refine g_astore X60 hx (hb hby at_139) rfl (L' := #[.val (.int p1), .val (.int sel), .val (.long raw), .second, .val (.int (2 : Int32)), .val (.int (own_pick sel raw (0 : Int32))), .val (.int (own_pick sel raw (1 : Int32))), .val (.int (own_pick sel raw (2 : Int32))), .val (.int (own_pick sel raw (3 : Int32))), .val (.int (own_pick sel raw (4 : Int32))), .val (.int (own_pick sel raw (5 : Int32))), .val (.ref b), .val (.ref (if own_of (own_F sel raw) 2 then wX else wJ)), .unset, .unset, .unset, .unset]) rfl (q := 141) rfl ?_
    refine g_iload X60 hx (hb hby at_141) (v := (2 : Int32)) rfl (q := 143) rfl ?_
    refine g_iconst X60 hx (hb hby at_143) (n := (3 : Int32)) (by decide) (q := 144) rfl ?_
    refine g_icmp_lt X60 hx (hb hby at_144) (by decide) (q := 172) (by decide) (q2 := 147) rfl (fun hb144 => ?_) (fun hb144 => absurd hb144 (by decide))
    refine g_iconst X60 hx (hb hby at_172) (n := (0 : Int32)) (by decide) (q := 173) rfl ?_
    refine g_istore X60 hx (hb hby at_173) (L' := #[.val (.int p1), .val (.int sel), .val (.long raw), .second, .val (.int (2 : Int32)), .val (.int (own_pick sel raw (0 : Int32))), .val (.int (own_pick sel raw (1 : Int32))), .val (.int (own_pick sel raw (2 : Int32))), .val (.int (own_pick sel raw (3 : Int32))), .val (.int (own_pick sel raw (4 : Int32))), .val (.int (own_pick sel raw (5 : Int32))), .val (.ref b), .val (.ref (if own_of (own_F sel raw) 2 then wX else wJ)), .val (.int (0 : Int32)), .unset, .unset, .unset]) rfl (q := 175) rfl ?_
    refine g_iload X60 hx (hb hby at_175) (v := (0 : Int32)) rfl (q := 177) rfl ?_
    refine g_if_eq X60 hx (hb hby at_177) (by decide) (q := 184) (by decide) (q2 := 180) rfl (fun hb177 => ?_) (fun hb177 => absurd hb177 (by decide))
    refine g_iconst X60 hx (hb hby at_184) (n := (0 : Int32)) (by decide) (q := 185) rfl ?_
    refine g_istore X60 hx (hb hby at_185) (L' := #[.val (.int p1), .val (.int sel), .val (.long raw), .second, .val (.int (2 : Int32)), .val (.int (own_pick sel raw (0 : Int32))), .val (.int (own_pick sel raw (1 : Int32))), .val (.int (own_pick sel raw (2 : Int32))), .val (.int (own_pick sel raw (3 : Int32))), .val (.int (own_pick sel raw (4 : Int32))), .val (.int (own_pick sel raw (5 : Int32))), .val (.ref b), .val (.ref (if own_of (own_F sel raw) 2 then wX else wJ)), .val (.int (0 : Int32)), .val (.int (0 : Int32)), .unset, .unset]) rfl (q := 187) rfl ?_
    have hst : own_st (own_F sel raw) 2 = 0 := rfl
    have hof : own_of (own_F sel raw) 2 = own_scan (own_F sel raw) (2 - 0) 0 := by
      show own_scan (own_F sel raw) (2 - own_st (own_F sel raw) 2) (own_st (own_F sel raw) 2) = _
      rw [hst]
    have hch : own_chain (own_F sel raw) (0 : Int32) (2 : Int32) = if own_of (own_F sel raw) 2 then 1 else 0 := by
      rw [hof]; exact own_chain_of (own_F sel raw) 2 0 (by decide) (by decide) (by decide)
    exact J187 _ _ _ _ _ _ _ _ X60 e60 N54 f57 f58 (own_got hch)
  · refine g_iload X24 hx (hb hby at_57) (v := (3 : Int32)) rfl (q := 59) rfl ?_
    refine g_newP X24 hx hZ (hw _ (List.mem_of_getElem? (i := 5) rfl)) e24 (hb hby at_59) (n := (3 : Int32)) (by decide) (cap := 6) (Nat.le_of_ble_eq_true rfl) (by decide) (Nat.le_of_ble_eq_true rfl) (Nat.le_of_ble_eq_true rfl) (q := 61) rfl fun T61 h61 c61 b g61 X61 e61 E61 A61 => ?_
    have ne_bm_b : bm ≠ b := Nat.ne_of_lt (Nat.lt_of_lt_of_le VM.lt (Nat.le_of_eq g61.symm))
    have ge_b : n0 ≤ b := Nat.le_trans Z0 (Nat.le_of_eq g61.symm)
    have z_61 := Nat.le_trans Z0 E61.1
    have f62 := (VM.ext E61)
    have f63 := (SB.ext E61)
    have f64 := (SX.ext E61)
    have f65 := (SJ.ext E61)
    have V61 : Af Z h61 b .byte 3 (fun _ => (.int (0 : Int32))) := Af.fresh A61
    refine g_astore X61 hx (hb hby at_61) rfl (L' := #[.val (.int p1), .val (.int sel), .val (.long raw), .second, .val (.int (3 : Int32)), .val (.int (own_pick sel raw (0 : Int32))), .val (.int (own_pick sel raw (1 : Int32))), .val (.int (own_pick sel raw (2 : Int32))), .val (.int (own_pick sel raw (3 : Int32))), .val (.int (own_pick sel raw (4 : Int32))), .val (.int (own_pick sel raw (5 : Int32))), .val (.ref b), .unset, .unset, .unset, .unset, .unset]) rfl (q := 63) rfl ?_
    refine g_iload X61 hx (hb hby at_63) (v := (3 : Int32)) rfl (q := 65) rfl ?_
    refine g_if_le X61 hx (hb hby at_65) (by decide) (q := 74) (by decide) (q2 := 68) rfl (fun hb65 => absurd hb65 (by decide)) (fun hb65 => ?_)
    refine g_aload X61 hx (hb hby at_68) (v := (.ref b)) rfl rfl (q := 70) rfl ?_
    refine g_iconst X61 hx (hb hby at_70) (n := (0 : Int32)) (by decide) (q := 71) rfl ?_
    refine g_iload X61 hx (hb hby at_71) (v := (own_pick sel raw (0 : Int32))) rfl (q := 73) rfl ?_
    refine g_bastore X61 hx hZ e61 V61 (by decide) (by decide) (y := own_pick sel raw (0 : Int32)) (own_pick_nar _ _ _) (hb hby at_73) (q := 74) rfl fun T66 h66 X66 e66 W66 U66 => ?_
    have N66 := Fr.snoc X66 (Fr.nil n0) ge_b
    have z_66 := Nat.le_trans z_61 (Keep.of_wr W66).1
    have f67 := (f62.other W66 ne_bm_b)
    have f68 := (f63.wr W66)
    have f69 := (f64.wr W66)
    have f70 := (f65.wr W66)
    refine g_iload X66 hx (hb hby at_74) (v := (3 : Int32)) rfl (q := 76) rfl ?_
    refine g_iconst X66 hx (hb hby at_76) (n := (1 : Int32)) (by decide) (q := 77) rfl ?_
    refine g_icmp_le X66 hx (hb hby at_77) (by decide) (q := 86) (by decide) (q2 := 80) rfl (fun hb77 => absurd hb77 (by decide)) (fun hb77 => ?_)
    refine g_aload X66 hx (hb hby at_80) (v := (.ref b)) rfl rfl (q := 82) rfl ?_
    refine g_iconst X66 hx (hb hby at_82) (n := (1 : Int32)) (by decide) (q := 83) rfl ?_
    refine g_iload X66 hx (hb hby at_83) (v := (own_pick sel raw (1 : Int32))) rfl (q := 85) rfl ?_
    refine g_bastore X66 hx hZ e66 U66 (by decide) (by decide) (y := own_pick sel raw (1 : Int32)) (own_pick_nar _ _ _) (hb hby at_85) (q := 86) rfl fun T71 h71 X71 e71 W71 U71 => ?_
    have N71 := Fr.snoc X71 N66 ge_b
    have z_71 := Nat.le_trans z_66 (Keep.of_wr W71).1
    have f72 := (f67.other W71 ne_bm_b)
    have f73 := (f68.wr W71)
    have f74 := (f69.wr W71)
    have f75 := (f70.wr W71)
    refine g_iload X71 hx (hb hby at_86) (v := (3 : Int32)) rfl (q := 88) rfl ?_
    refine g_iconst X71 hx (hb hby at_88) (n := (2 : Int32)) (by decide) (q := 89) rfl ?_
    refine g_icmp_le X71 hx (hb hby at_89) (by decide) (q := 98) (by decide) (q2 := 92) rfl (fun hb89 => absurd hb89 (by decide)) (fun hb89 => ?_)
    refine g_aload X71 hx (hb hby at_92) (v := (.ref b)) rfl rfl (q := 94) rfl ?_
    refine g_iconst X71 hx (hb hby at_94) (n := (2 : Int32)) (by decide) (q := 95) rfl ?_
    refine g_iload X71 hx (hb hby at_95) (v := (own_pick sel raw (2 : Int32))) rfl (q := 97) rfl ?_
    refine g_bastore X71 hx hZ e71 U71 (by decide) (by decide) (y := own_pick sel raw (2 : Int32)) (own_pick_nar _ _ _) (hb hby at_97) (q := 98) rfl fun T76 h76 X76 e76 W76 U76 => ?_
    have N76 := Fr.snoc X76 N71 ge_b
    have z_76 := Nat.le_trans z_71 (Keep.of_wr W76).1
    have f77 := (f72.other W76 ne_bm_b)
    have f78 := (f73.wr W76)
    have f79 := (f74.wr W76)
    have f80 := (f75.wr W76)
    refine g_iload X76 hx (hb hby at_98) (v := (3 : Int32)) rfl (q := 100) rfl ?_
    refine g_iconst X76 hx (hb hby at_100) (n := (3 : Int32)) (by decide) (q := 101) rfl ?_
    refine g_icmp_le X76 hx (hb hby at_101) (by decide) (q := 110) (by decide) (q2 := 104) rfl (fun hb101 => ?_) (fun hb101 => absurd hb101 (by decide))
    refine g_iload X76 hx (hb hby at_110) (v := (3 : Int32)) rfl (q := 112) rfl ?_
    refine g_iconst X76 hx (hb hby at_112) (n := (4 : Int32)) (by decide) (q := 113) rfl ?_
    refine g_icmp_le X76 hx (hb hby at_113) (by decide) (q := 122) (by decide) (q2 := 116) rfl (fun hb113 => ?_) (fun hb113 => absurd hb113 (by decide))
    refine g_iload X76 hx (hb hby at_122) (v := (3 : Int32)) rfl (q := 124) rfl ?_
    refine g_iconst X76 hx (hb hby at_124) (n := (5 : Int32)) (by decide) (q := 125) rfl ?_
    refine g_icmp_le X76 hx (hb hby at_125) (by decide) (q := 134) (by decide) (q2 := 128) rfl (fun hb125 => ?_) (fun hb125 => absurd hb125 (by decide))
    refine g_aload X76 hx (hb hby at_134) (v := (.ref b)) rfl rfl (q := 136) rfl ?_
    have V81 : Af Z h76 b .byte 3 (fun i => .int (own_F sel raw i)) := by
      refine Af.congr U76 fun i hi => ?_
      rcases (by omega : i = 0 ∨ i = 1 ∨ i = 2) with rfl | rfl | rfl <;> rfl
    refine g_callS X76 hx hZ hown (hw _ (List.mem_of_getElem? (i := 6) rfl)) (hw _ (List.mem_of_getElem? (i := 7) rfl)) (hw _ (List.mem_of_getElem? (i := 8) rfl)) (hw _ (List.mem_of_getElem? (i := 9) rfl)) (by decide) e76 (rmO l Z a0 hw b bm wX wJ (own_F sel raw) 3 (by decide) h76 V81 f77 f78 f79 f80) (by exact hml.symm) (argsL := [(.ref b)]) (rest := []) rfl rfl pd_6 rfl (Nat.le_of_ble_eq_true rfl) (Nat.le_of_ble_eq_true rfl) (Nat.le_of_ble_eq_true rfl) (Nat.le_of_ble_eq_true rfl) (hb hby at_136) (q := 139) rfl (g_pure rfl rfl fun T82 X82 e82 => ?_)
    show Go p e below _ (T82.setTop (mkF m 139 #[.val (.int p1), .val (.int sel), .val (.long raw), .second, .val (.int (3 : Int32)), .val (.int (own_pick sel raw (0 : Int32))), .val (.int (own_pick sel raw (1 : Int32))), .val (.int (own_pick sel raw (2 : Int32))), .val (.int (own_pick sel raw (3 : Int32))), .val (.int (own_pick sel raw (4 : Int32))), .val (.int (own_pick sel raw (5 : Int32))), .val (.ref b), .unset, .unset, .unset, .unset, .unset] [(.ref (if own_of (own_F sel raw) 3 then wX else wJ))]))
    refine g_astore X82 hx (hb hby at_139) rfl (L' := #[.val (.int p1), .val (.int sel), .val (.long raw), .second, .val (.int (3 : Int32)), .val (.int (own_pick sel raw (0 : Int32))), .val (.int (own_pick sel raw (1 : Int32))), .val (.int (own_pick sel raw (2 : Int32))), .val (.int (own_pick sel raw (3 : Int32))), .val (.int (own_pick sel raw (4 : Int32))), .val (.int (own_pick sel raw (5 : Int32))), .val (.ref b), .val (.ref (if own_of (own_F sel raw) 3 then wX else wJ)), .unset, .unset, .unset, .unset]) rfl (q := 141) rfl ?_
    refine g_iload X82 hx (hb hby at_141) (v := (3 : Int32)) rfl (q := 143) rfl ?_
    refine g_iconst X82 hx (hb hby at_143) (n := (3 : Int32)) (by decide) (q := 144) rfl ?_
    refine g_icmp_lt X82 hx (hb hby at_144) (by decide) (q := 172) (by decide) (q2 := 147) rfl (fun hb144 => absurd hb144 (by decide)) (fun hb144 => ?_)
    refine g_iload X82 hx (hb hby at_147) (v := (own_pick sel raw (0 : Int32))) rfl (q := 149) rfl ?_
    refine g_bipush X82 hx (hb hby at_149) (n := (-17 : Int32)) (by decide) (q := 151) rfl ?_
    refine g_icmp_ne X82 hx (hb hby at_151) (by decide) (q := 172) (by decide) (q2 := 154) rfl (fun hb151 => ?_) (fun hb151 => ?_)
    · refine g_iconst X82 hx (hb hby at_172) (n := (0 : Int32)) (by decide) (q := 173) rfl ?_
      refine g_istore X82 hx (hb hby at_173) (L' := #[.val (.int p1), .val (.int sel), .val (.long raw), .second, .val (.int (3 : Int32)), .val (.int (own_pick sel raw (0 : Int32))), .val (.int (own_pick sel raw (1 : Int32))), .val (.int (own_pick sel raw (2 : Int32))), .val (.int (own_pick sel raw (3 : Int32))), .val (.int (own_pick sel raw (4 : Int32))), .val (.int (own_pick sel raw (5 : Int32))), .val (.ref b), .val (.ref (if own_of (own_F sel raw) 3 then wX else wJ)), .val (.int (0 : Int32)), .unset, .unset, .unset]) rfl (q := 175) rfl ?_
      refine g_iload X82 hx (hb hby at_175) (v := (0 : Int32)) rfl (q := 177) rfl ?_
      refine g_if_eq X82 hx (hb hby at_177) (by decide) (q := 184) (by decide) (q2 := 180) rfl (fun hb177 => ?_) (fun hb177 => absurd hb177 (by decide))
      refine g_iconst X82 hx (hb hby at_184) (n := (0 : Int32)) (by decide) (q := 185) rfl ?_
      refine g_istore X82 hx (hb hby at_185) (L' := #[.val (.int p1), .val (.int sel), .val (.long raw), .second, .val (.int (3 : Int32)), .val (.int (own_pick sel raw (0 : Int32))), .val (.int (own_pick sel raw (1 : Int32))), .val (.int (own_pick sel raw (2 : Int32))), .val (.int (own_pick sel raw (3 : Int32))), .val (.int (own_pick sel raw (4 : Int32))), .val (.int (own_pick sel raw (5 : Int32))), .val (.ref b), .val (.ref (if own_of (own_F sel raw) 3 then wX else wJ)), .val (.int (0 : Int32)), .val (.int (0 : Int32)), .unset, .unset]) rfl (q := 187) rfl ?_
      have hst : own_st (own_F sel raw) 3 = 0 := by simp [own_st, own_mm, (show ¬ own_F sel raw 0 = -17 from hb151)]
      have hof : own_of (own_F sel raw) 3 = own_scan (own_F sel raw) (3 - 0) 0 := by
        show own_scan (own_F sel raw) (3 - own_st (own_F sel raw) 3) (own_st (own_F sel raw) 3) = _
        rw [hst]
      have hch : own_chain (own_F sel raw) (0 : Int32) (3 : Int32) = if own_of (own_F sel raw) 3 then 1 else 0 := by
        rw [hof]; exact own_chain_of (own_F sel raw) 3 0 (by decide) (by decide) (by decide)
      exact J187 _ _ _ _ _ _ _ _ X82 e82 N76 f79 f80 (own_got hch)
    · refine g_iload X82 hx (hb hby at_154) (v := (own_pick sel raw (1 : Int32))) rfl (q := 156) rfl ?_
      refine g_bipush X82 hx (hb hby at_156) (n := (-69 : Int32)) (by decide) (q := 158) rfl ?_
      refine g_icmp_ne X82 hx (hb hby at_158) (by decide) (q := 172) (by decide) (q2 := 161) rfl (fun hb158 => ?_) (fun hb158 => ?_)
      · refine g_iconst X82 hx (hb hby at_172) (n := (0 : Int32)) (by decide) (q := 173) rfl ?_
        refine g_istore X82 hx (hb hby at_173) (L' := #[.val (.int p1), .val (.int sel), .val (.long raw), .second, .val (.int (3 : Int32)), .val (.int (own_pick sel raw (0 : Int32))), .val (.int (own_pick sel raw (1 : Int32))), .val (.int (own_pick sel raw (2 : Int32))), .val (.int (own_pick sel raw (3 : Int32))), .val (.int (own_pick sel raw (4 : Int32))), .val (.int (own_pick sel raw (5 : Int32))), .val (.ref b), .val (.ref (if own_of (own_F sel raw) 3 then wX else wJ)), .val (.int (0 : Int32)), .unset, .unset, .unset]) rfl (q := 175) rfl ?_
        refine g_iload X82 hx (hb hby at_175) (v := (0 : Int32)) rfl (q := 177) rfl ?_
        refine g_if_eq X82 hx (hb hby at_177) (by decide) (q := 184) (by decide) (q2 := 180) rfl (fun hb177 => ?_) (fun hb177 => absurd hb177 (by decide))
        refine g_iconst X82 hx (hb hby at_184) (n := (0 : Int32)) (by decide) (q := 185) rfl ?_
        refine g_istore X82 hx (hb hby at_185) (L' := #[.val (.int p1), .val (.int sel), .val (.long raw), .second, .val (.int (3 : Int32)), .val (.int (own_pick sel raw (0 : Int32))), .val (.int (own_pick sel raw (1 : Int32))), .val (.int (own_pick sel raw (2 : Int32))), .val (.int (own_pick sel raw (3 : Int32))), .val (.int (own_pick sel raw (4 : Int32))), .val (.int (own_pick sel raw (5 : Int32))), .val (.ref b), .val (.ref (if own_of (own_F sel raw) 3 then wX else wJ)), .val (.int (0 : Int32)), .val (.int (0 : Int32)), .unset, .unset]) rfl (q := 187) rfl ?_
        have hst : own_st (own_F sel raw) 3 = 0 := by simp [own_st, own_mm, show own_F sel raw 0 = -17 from hb151, (show ¬ own_F sel raw 1 = -69 from hb158)]
        have hof : own_of (own_F sel raw) 3 = own_scan (own_F sel raw) (3 - 0) 0 := by
          show own_scan (own_F sel raw) (3 - own_st (own_F sel raw) 3) (own_st (own_F sel raw) 3) = _
          rw [hst]
        have hch : own_chain (own_F sel raw) (0 : Int32) (3 : Int32) = if own_of (own_F sel raw) 3 then 1 else 0 := by
          rw [hof]; exact own_chain_of (own_F sel raw) 3 0 (by decide) (by decide) (by decide)
        exact J187 _ _ _ _ _ _ _ _ X82 e82 N76 f79 f80 (own_got hch)
      · refine g_iload X82 hx (hb hby at_161) (v := (own_pick sel raw (2 : Int32))) rfl (q := 163) rfl ?_
        refine g_bipush X82 hx (hb hby at_163) (n := (-65 : Int32)) (by decide) (q := 165) rfl ?_
        refine g_icmp_ne X82 hx (hb hby at_165) (by decide) (q := 172) (by decide) (q2 := 168) rfl (fun hb165 => ?_) (fun hb165 => ?_)
        · refine g_iconst X82 hx (hb hby at_172) (n := (0 : Int32)) (by decide) (q := 173) rfl ?_
          refine g_istore X82 hx (hb hby at_173) (L' := #[.val (.int p1), .val (.int sel), .val (.long raw), .second, .val (.int (3 : Int32)), .val (.int (own_pick sel raw (0 : Int32))), .val (.int (own_pick sel raw (1 : Int32))), .val (.int (own_pick sel raw (2 : Int32))), .val (.int (own_pick sel raw (3 : Int32))), .val (.int (own_pick sel raw (4 : Int32))), .val (.int (own_pick sel raw (5 : Int32))), .val (.ref b), .val (.ref (if own_of (own_F sel raw) 3 then wX else wJ)), .val (.int (0 : Int32)), .unset, .unset, .unset]) rfl (q := 175) rfl ?_
          refine g_iload X82 hx (hb hby at_175) (v := (0 : Int32)) rfl (q := 177) rfl ?_
          refine g_if_eq X82 hx (hb hby at_177) (by decide) (q := 184) (by decide) (q2 := 180) rfl (fun hb177 => ?_) (fun hb177 => absurd hb177 (by decide))
          refine g_iconst X82 hx (hb hby at_184) (n := (0 : Int32)) (by decide) (q := 185) rfl ?_
          refine g_istore X82 hx (hb hby at_185) (L' := #[.val (.int p1), .val (.int sel), .val (.long raw), .second, .val (.int (3 : Int32)), .val (.int (own_pick sel raw (0 : Int32))), .val (.int (own_pick sel raw (1 : Int32))), .val (.int (own_pick sel raw (2 : Int32))), .val (.int (own_pick sel raw (3 : Int32))), .val (.int (own_pick sel raw (4 : Int32))), .val (.int (own_pick sel raw (5 : Int32))), .val (.ref b), .val (.ref (if own_of (own_F sel raw) 3 then wX else wJ)), .val (.int (0 : Int32)), .val (.int (0 : Int32)), .unset, .unset]) rfl (q := 187) rfl ?_
          have hst : own_st (own_F sel raw) 3 = 0 := by simp [own_st, own_mm, show own_F sel raw 0 = -17 from hb151, show own_F sel raw 1 = -69 from hb158, (show ¬ own_F sel raw 2 = -65 from hb165)]
          have hof : own_of (own_F sel raw) 3 = own_scan (own_F sel raw) (3 - 0) 0 := by
            show own_scan (own_F sel raw) (3 - own_st (own_F sel raw) 3) (own_st (own_F sel raw) 3) = _
            rw [hst]
          have hch : own_chain (own_F sel raw) (0 : Int32) (3 : Int32) = if own_of (own_F sel raw) 3 then 1 else 0 := by
            rw [hof]; exact own_chain_of (own_F sel raw) 3 0 (by decide) (by decide) (by decide)
          exact J187 _ _ _ _ _ _ _ _ X82 e82 N76 f79 f80 (own_got hch)
        · refine g_iconst X82 hx (hb hby at_168) (n := (1 : Int32)) (by decide) (q := 169) rfl ?_
          refine g_goto X82 hx (hb hby at_169) (by decide) (q := 173) (by decide) ?_
          refine g_istore X82 hx (hb hby at_173) (L' := #[.val (.int p1), .val (.int sel), .val (.long raw), .second, .val (.int (3 : Int32)), .val (.int (own_pick sel raw (0 : Int32))), .val (.int (own_pick sel raw (1 : Int32))), .val (.int (own_pick sel raw (2 : Int32))), .val (.int (own_pick sel raw (3 : Int32))), .val (.int (own_pick sel raw (4 : Int32))), .val (.int (own_pick sel raw (5 : Int32))), .val (.ref b), .val (.ref (if own_of (own_F sel raw) 3 then wX else wJ)), .val (.int (1 : Int32)), .unset, .unset, .unset]) rfl (q := 175) rfl ?_
          refine g_iload X82 hx (hb hby at_175) (v := (1 : Int32)) rfl (q := 177) rfl ?_
          refine g_if_eq X82 hx (hb hby at_177) (by decide) (q := 184) (by decide) (q2 := 180) rfl (fun hb177 => absurd hb177 (by decide)) (fun hb177 => ?_)
          refine g_iconst X82 hx (hb hby at_180) (n := (3 : Int32)) (by decide) (q := 181) rfl ?_
          refine g_goto X82 hx (hb hby at_181) (by decide) (q := 185) (by decide) ?_
          refine g_istore X82 hx (hb hby at_185) (L' := #[.val (.int p1), .val (.int sel), .val (.long raw), .second, .val (.int (3 : Int32)), .val (.int (own_pick sel raw (0 : Int32))), .val (.int (own_pick sel raw (1 : Int32))), .val (.int (own_pick sel raw (2 : Int32))), .val (.int (own_pick sel raw (3 : Int32))), .val (.int (own_pick sel raw (4 : Int32))), .val (.int (own_pick sel raw (5 : Int32))), .val (.ref b), .val (.ref (if own_of (own_F sel raw) 3 then wX else wJ)), .val (.int (1 : Int32)), .val (.int (3 : Int32)), .unset, .unset]) rfl (q := 187) rfl ?_
          have hst : own_st (own_F sel raw) 3 = 3 := by simp [own_st, own_mm, show own_F sel raw 0 = -17 from hb151, show own_F sel raw 1 = -69 from hb158, show own_F sel raw 2 = -65 from hb165]
          have hof : own_of (own_F sel raw) 3 = own_scan (own_F sel raw) (3 - 3) 3 := by
            show own_scan (own_F sel raw) (3 - own_st (own_F sel raw) 3) (own_st (own_F sel raw) 3) = _
            rw [hst]
          have hch : own_chain (own_F sel raw) (3 : Int32) (3 : Int32) = if own_of (own_F sel raw) 3 then 1 else 0 := by
            rw [hof]; exact own_chain_of (own_F sel raw) 3 3 (by decide) (by decide) (by decide)
          exact J187 _ _ _ _ _ _ _ _ X82 e82 N76 f79 f80 (own_got hch)
  · refine g_iload X24 hx (hb hby at_57) (v := (4 : Int32)) rfl (q := 59) rfl ?_
    refine g_newP X24 hx hZ (hw _ (List.mem_of_getElem? (i := 5) rfl)) e24 (hb hby at_59) (n := (4 : Int32)) (by decide) (cap := 6) (Nat.le_of_ble_eq_true rfl) (by decide) (Nat.le_of_ble_eq_true rfl) (Nat.le_of_ble_eq_true rfl) (q := 61) rfl fun T83 h83 c83 b g83 X83 e83 E83 A83 => ?_
    have ne_bm_b : bm ≠ b := Nat.ne_of_lt (Nat.lt_of_lt_of_le VM.lt (Nat.le_of_eq g83.symm))
    have ge_b : n0 ≤ b := Nat.le_trans Z0 (Nat.le_of_eq g83.symm)
    have z_83 := Nat.le_trans Z0 E83.1
    have f84 := (VM.ext E83)
    have f85 := (SB.ext E83)
    have f86 := (SX.ext E83)
    have f87 := (SJ.ext E83)
    have V83 : Af Z h83 b .byte 4 (fun _ => (.int (0 : Int32))) := Af.fresh A83
    refine g_astore X83 hx (hb hby at_61) rfl (L' := #[.val (.int p1), .val (.int sel), .val (.long raw), .second, .val (.int (4 : Int32)), .val (.int (own_pick sel raw (0 : Int32))), .val (.int (own_pick sel raw (1 : Int32))), .val (.int (own_pick sel raw (2 : Int32))), .val (.int (own_pick sel raw (3 : Int32))), .val (.int (own_pick sel raw (4 : Int32))), .val (.int (own_pick sel raw (5 : Int32))), .val (.ref b), .unset, .unset, .unset, .unset, .unset]) rfl (q := 63) rfl ?_
    refine g_iload X83 hx (hb hby at_63) (v := (4 : Int32)) rfl (q := 65) rfl ?_
    refine g_if_le X83 hx (hb hby at_65) (by decide) (q := 74) (by decide) (q2 := 68) rfl (fun hb65 => absurd hb65 (by decide)) (fun hb65 => ?_)
    refine g_aload X83 hx (hb hby at_68) (v := (.ref b)) rfl rfl (q := 70) rfl ?_
    refine g_iconst X83 hx (hb hby at_70) (n := (0 : Int32)) (by decide) (q := 71) rfl ?_
    refine g_iload X83 hx (hb hby at_71) (v := (own_pick sel raw (0 : Int32))) rfl (q := 73) rfl ?_
    refine g_bastore X83 hx hZ e83 V83 (by decide) (by decide) (y := own_pick sel raw (0 : Int32)) (own_pick_nar _ _ _) (hb hby at_73) (q := 74) rfl fun T88 h88 X88 e88 W88 U88 => ?_
    have N88 := Fr.snoc X88 (Fr.nil n0) ge_b
    have z_88 := Nat.le_trans z_83 (Keep.of_wr W88).1
    have f89 := (f84.other W88 ne_bm_b)
    have f90 := (f85.wr W88)
    have f91 := (f86.wr W88)
    have f92 := (f87.wr W88)
    refine g_iload X88 hx (hb hby at_74) (v := (4 : Int32)) rfl (q := 76) rfl ?_
    refine g_iconst X88 hx (hb hby at_76) (n := (1 : Int32)) (by decide) (q := 77) rfl ?_
    refine g_icmp_le X88 hx (hb hby at_77) (by decide) (q := 86) (by decide) (q2 := 80) rfl (fun hb77 => absurd hb77 (by decide)) (fun hb77 => ?_)
    refine g_aload X88 hx (hb hby at_80) (v := (.ref b)) rfl rfl (q := 82) rfl ?_
    refine g_iconst X88 hx (hb hby at_82) (n := (1 : Int32)) (by decide) (q := 83) rfl ?_
    refine g_iload X88 hx (hb hby at_83) (v := (own_pick sel raw (1 : Int32))) rfl (q := 85) rfl ?_
    refine g_bastore X88 hx hZ e88 U88 (by decide) (by decide) (y := own_pick sel raw (1 : Int32)) (own_pick_nar _ _ _) (hb hby at_85) (q := 86) rfl fun T93 h93 X93 e93 W93 U93 => ?_
    have N93 := Fr.snoc X93 N88 ge_b
    have z_93 := Nat.le_trans z_88 (Keep.of_wr W93).1
    have f94 := (f89.other W93 ne_bm_b)
    have f95 := (f90.wr W93)
    have f96 := (f91.wr W93)
    have f97 := (f92.wr W93)
    refine g_iload X93 hx (hb hby at_86) (v := (4 : Int32)) rfl (q := 88) rfl ?_
    refine g_iconst X93 hx (hb hby at_88) (n := (2 : Int32)) (by decide) (q := 89) rfl ?_
    refine g_icmp_le X93 hx (hb hby at_89) (by decide) (q := 98) (by decide) (q2 := 92) rfl (fun hb89 => absurd hb89 (by decide)) (fun hb89 => ?_)
    refine g_aload X93 hx (hb hby at_92) (v := (.ref b)) rfl rfl (q := 94) rfl ?_
    refine g_iconst X93 hx (hb hby at_94) (n := (2 : Int32)) (by decide) (q := 95) rfl ?_
    refine g_iload X93 hx (hb hby at_95) (v := (own_pick sel raw (2 : Int32))) rfl (q := 97) rfl ?_
    refine g_bastore X93 hx hZ e93 U93 (by decide) (by decide) (y := own_pick sel raw (2 : Int32)) (own_pick_nar _ _ _) (hb hby at_97) (q := 98) rfl fun T98 h98 X98 e98 W98 U98 => ?_
    have N98 := Fr.snoc X98 N93 ge_b
    have z_98 := Nat.le_trans z_93 (Keep.of_wr W98).1
    have f99 := (f94.other W98 ne_bm_b)
    have f100 := (f95.wr W98)
    have f101 := (f96.wr W98)
    have f102 := (f97.wr W98)
    refine g_iload X98 hx (hb hby at_98) (v := (4 : Int32)) rfl (q := 100) rfl ?_
    refine g_iconst X98 hx (hb hby at_100) (n := (3 : Int32)) (by decide) (q := 101) rfl ?_
    refine g_icmp_le X98 hx (hb hby at_101) (by decide) (q := 110) (by decide) (q2 := 104) rfl (fun hb101 => absurd hb101 (by decide)) (fun hb101 => ?_)
    refine g_aload X98 hx (hb hby at_104) (v := (.ref b)) rfl rfl (q := 106) rfl ?_
    refine g_iconst X98 hx (hb hby at_106) (n := (3 : Int32)) (by decide) (q := 107) rfl ?_
    refine g_iload X98 hx (hb hby at_107) (v := (own_pick sel raw (3 : Int32))) rfl (q := 109) rfl ?_
    refine g_bastore X98 hx hZ e98 U98 (by decide) (by decide) (y := own_pick sel raw (3 : Int32)) (own_pick_nar _ _ _) (hb hby at_109) (q := 110) rfl fun T103 h103 X103 e103 W103 U103 => ?_
    have N103 := Fr.snoc X103 N98 ge_b
    have z_103 := Nat.le_trans z_98 (Keep.of_wr W103).1
    have f104 := (f99.other W103 ne_bm_b)
    have f105 := (f100.wr W103)
    have f106 := (f101.wr W103)
    have f107 := (f102.wr W103)
    refine g_iload X103 hx (hb hby at_110) (v := (4 : Int32)) rfl (q := 112) rfl ?_
    refine g_iconst X103 hx (hb hby at_112) (n := (4 : Int32)) (by decide) (q := 113) rfl ?_
    refine g_icmp_le X103 hx (hb hby at_113) (by decide) (q := 122) (by decide) (q2 := 116) rfl (fun hb113 => ?_) (fun hb113 => absurd hb113 (by decide))
    refine g_iload X103 hx (hb hby at_122) (v := (4 : Int32)) rfl (q := 124) rfl ?_
    refine g_iconst X103 hx (hb hby at_124) (n := (5 : Int32)) (by decide) (q := 125) rfl ?_
    refine g_icmp_le X103 hx (hb hby at_125) (by decide) (q := 134) (by decide) (q2 := 128) rfl (fun hb125 => ?_) (fun hb125 => absurd hb125 (by decide))
    refine g_aload X103 hx (hb hby at_134) (v := (.ref b)) rfl rfl (q := 136) rfl ?_
    have V108 : Af Z h103 b .byte 4 (fun i => .int (own_F sel raw i)) := by
      refine Af.congr U103 fun i hi => ?_
      rcases (by omega : i = 0 ∨ i = 1 ∨ i = 2 ∨ i = 3) with rfl | rfl | rfl | rfl <;> rfl
    refine g_callS X103 hx hZ hown (hw _ (List.mem_of_getElem? (i := 6) rfl)) (hw _ (List.mem_of_getElem? (i := 7) rfl)) (hw _ (List.mem_of_getElem? (i := 8) rfl)) (hw _ (List.mem_of_getElem? (i := 9) rfl)) (by decide) e103 (rmO l Z a0 hw b bm wX wJ (own_F sel raw) 4 (by decide) h103 V108 f104 f105 f106 f107) (by exact hml.symm) (argsL := [(.ref b)]) (rest := []) rfl rfl pd_6 rfl (Nat.le_of_ble_eq_true rfl) (Nat.le_of_ble_eq_true rfl) (Nat.le_of_ble_eq_true rfl) (Nat.le_of_ble_eq_true rfl) (hb hby at_136) (q := 139) rfl (g_pure rfl rfl fun T109 X109 e109 => ?_)
    show Go p e below _ (T109.setTop (mkF m 139 #[.val (.int p1), .val (.int sel), .val (.long raw), .second, .val (.int (4 : Int32)), .val (.int (own_pick sel raw (0 : Int32))), .val (.int (own_pick sel raw (1 : Int32))), .val (.int (own_pick sel raw (2 : Int32))), .val (.int (own_pick sel raw (3 : Int32))), .val (.int (own_pick sel raw (4 : Int32))), .val (.int (own_pick sel raw (5 : Int32))), .val (.ref b), .unset, .unset, .unset, .unset, .unset] [(.ref (if own_of (own_F sel raw) 4 then wX else wJ))]))
    refine g_astore X109 hx (hb hby at_139) rfl (L' := #[.val (.int p1), .val (.int sel), .val (.long raw), .second, .val (.int (4 : Int32)), .val (.int (own_pick sel raw (0 : Int32))), .val (.int (own_pick sel raw (1 : Int32))), .val (.int (own_pick sel raw (2 : Int32))), .val (.int (own_pick sel raw (3 : Int32))), .val (.int (own_pick sel raw (4 : Int32))), .val (.int (own_pick sel raw (5 : Int32))), .val (.ref b), .val (.ref (if own_of (own_F sel raw) 4 then wX else wJ)), .unset, .unset, .unset, .unset]) rfl (q := 141) rfl ?_
    refine g_iload X109 hx (hb hby at_141) (v := (4 : Int32)) rfl (q := 143) rfl ?_
    refine g_iconst X109 hx (hb hby at_143) (n := (3 : Int32)) (by decide) (q := 144) rfl ?_
    refine g_icmp_lt X109 hx (hb hby at_144) (by decide) (q := 172) (by decide) (q2 := 147) rfl (fun hb144 => absurd hb144 (by decide)) (fun hb144 => ?_)
    refine g_iload X109 hx (hb hby at_147) (v := (own_pick sel raw (0 : Int32))) rfl (q := 149) rfl ?_
    refine g_bipush X109 hx (hb hby at_149) (n := (-17 : Int32)) (by decide) (q := 151) rfl ?_
    refine g_icmp_ne X109 hx (hb hby at_151) (by decide) (q := 172) (by decide) (q2 := 154) rfl (fun hb151 => ?_) (fun hb151 => ?_)
    · refine g_iconst X109 hx (hb hby at_172) (n := (0 : Int32)) (by decide) (q := 173) rfl ?_
      refine g_istore X109 hx (hb hby at_173) (L' := #[.val (.int p1), .val (.int sel), .val (.long raw), .second, .val (.int (4 : Int32)), .val (.int (own_pick sel raw (0 : Int32))), .val (.int (own_pick sel raw (1 : Int32))), .val (.int (own_pick sel raw (2 : Int32))), .val (.int (own_pick sel raw (3 : Int32))), .val (.int (own_pick sel raw (4 : Int32))), .val (.int (own_pick sel raw (5 : Int32))), .val (.ref b), .val (.ref (if own_of (own_F sel raw) 4 then wX else wJ)), .val (.int (0 : Int32)), .unset, .unset, .unset]) rfl (q := 175) rfl ?_
      refine g_iload X109 hx (hb hby at_175) (v := (0 : Int32)) rfl (q := 177) rfl ?_
      refine g_if_eq X109 hx (hb hby at_177) (by decide) (q := 184) (by decide) (q2 := 180) rfl (fun hb177 => ?_) (fun hb177 => absurd hb177 (by decide))
      refine g_iconst X109 hx (hb hby at_184) (n := (0 : Int32)) (by decide) (q := 185) rfl ?_
      refine g_istore X109 hx (hb hby at_185) (L' := #[.val (.int p1), .val (.int sel), .val (.long raw), .second, .val (.int (4 : Int32)), .val (.int (own_pick sel raw (0 : Int32))), .val (.int (own_pick sel raw (1 : Int32))), .val (.int (own_pick sel raw (2 : Int32))), .val (.int (own_pick sel raw (3 : Int32))), .val (.int (own_pick sel raw (4 : Int32))), .val (.int (own_pick sel raw (5 : Int32))), .val (.ref b), .val (.ref (if own_of (own_F sel raw) 4 then wX else wJ)), .val (.int (0 : Int32)), .val (.int (0 : Int32)), .unset, .unset]) rfl (q := 187) rfl ?_
      have hst : own_st (own_F sel raw) 4 = 0 := by simp [own_st, own_mm, (show ¬ own_F sel raw 0 = -17 from hb151)]
      have hof : own_of (own_F sel raw) 4 = own_scan (own_F sel raw) (4 - 0) 0 := by
        show own_scan (own_F sel raw) (4 - own_st (own_F sel raw) 4) (own_st (own_F sel raw) 4) = _
        rw [hst]
      have hch : own_chain (own_F sel raw) (0 : Int32) (4 : Int32) = if own_of (own_F sel raw) 4 then 1 else 0 := by
        rw [hof]; exact own_chain_of (own_F sel raw) 4 0 (by decide) (by decide) (by decide)
      exact J187 _ _ _ _ _ _ _ _ X109 e109 N103 f106 f107 (own_got hch)
    · refine g_iload X109 hx (hb hby at_154) (v := (own_pick sel raw (1 : Int32))) rfl (q := 156) rfl ?_
      refine g_bipush X109 hx (hb hby at_156) (n := (-69 : Int32)) (by decide) (q := 158) rfl ?_
      refine g_icmp_ne X109 hx (hb hby at_158) (by decide) (q := 172) (by decide) (q2 := 161) rfl (fun hb158 => ?_) (fun hb158 => ?_)
      · refine g_iconst X109 hx (hb hby at_172) (n := (0 : Int32)) (by decide) (q := 173) rfl ?_
        refine g_istore X109 hx (hb hby at_173) (L' := #[.val (.int p1), .val (.int sel), .val (.long raw), .second, .val (.int (4 : Int32)), .val (.int (own_pick sel raw (0 : Int32))), .val (.int (own_pick sel raw (1 : Int32))), .val (.int (own_pick sel raw (2 : Int32))), .val (.int (own_pick sel raw (3 : Int32))), .val (.int (own_pick sel raw (4 : Int32))), .val (.int (own_pick sel raw (5 : Int32))), .val (.ref b), .val (.ref (if own_of (own_F sel raw) 4 then wX else wJ)), .val (.int (0 : Int32)), .unset, .unset, .unset]) rfl (q := 175) rfl ?_
        refine g_iload X109 hx (hb hby at_175) (v := (0 : Int32)) rfl (q := 177) rfl ?_
        refine g_if_eq X109 hx (hb hby at_177) (by decide) (q := 184) (by decide) (q2 := 180) rfl (fun hb177 => ?_) (fun hb177 => absurd hb177 (by decide))
        refine g_iconst X109 hx (hb hby at_184) (n := (0 : Int32)) (by decide) (q := 185) rfl ?_
        refine g_istore X109 hx (hb hby at_185) (L' := #[.val (.int p1), .val (.int sel), .val (.long raw), .second, .val (.int (4 : Int32)), .val (.int (own_pick sel raw (0 : Int32))), .val (.int (own_pick sel raw (1 : Int32))), .val (.int (own_pick sel raw (2 : Int32))), .val (.int (own_pick sel raw (3 : Int32))), .val (.int (own_pick sel raw (4 : Int32))), .val (.int (own_pick sel raw (5 : Int32))), .val (.ref b), .val (.ref (if own_of (own_F sel raw) 4 then wX else wJ)), .val (.int (0 : Int32)), .val (.int (0 : Int32)), .unset, .unset]) rfl (q := 187) rfl ?_
        have hst : own_st (own_F sel raw) 4 = 0 := by simp [own_st, own_mm, show own_F sel raw 0 = -17 from hb151, (show ¬ own_F sel raw 1 = -69 from hb158)]
        have hof : own_of (own_F sel raw) 4 = own_scan (own_F sel raw) (4 - 0) 0 := by
          show own_scan (own_F sel raw) (4 - own_st (own_F sel raw) 4) (own_st (own_F sel raw) 4) = _
          rw [hst]
        have hch : own_chain (own_F sel raw) (0 : Int32) (4 : Int32) = if own_of (own_F sel raw) 4 then 1 else 0 := by
          rw [hof]; exact own_chain_of (own_F sel raw) 4 0 (by decide) (by decide) (by decide)
        exact J187 _ _ _ _ _ _ _ _ X109 e109 N103 f106 f107 (own_got hch)
      · refine g_iload X109 hx (hb hby at_161) (v := (own_pick sel raw (2 : Int32))) rfl (q := 163) rfl ?_
        refine g_bipush X109 hx (hb hby at_163) (n := (-65 : Int32)) (by decide) (q := 165) rfl ?_
        refine g_icmp_ne X109 hx (hb hby at_165) (by decide) (q := 172) (by decide) (q2 := 168) rfl (fun hb165 => ?_) (fun hb165 => ?_)
        · refine g_iconst X109 hx (hb hby at_172) (n := (0 : Int32)) (by decide) (q := 173) rfl ?_
          refine g_istore X109 hx (hb hby at_173) (L' := #[.val (.int p1), .val (.int sel), .val (.long raw), .second, .val (.int (4 : Int32)), .val (.int (own_pick sel raw (0 : Int32))), .val (.int (own_pick sel raw (1 : Int32))), .val (.int (own_pick sel raw (2 : Int32))), .val (.int (own_pick sel raw (3 : Int32))), .val (.int (own_pick sel raw (4 : Int32))), .val (.int (own_pick sel raw (5 : Int32))), .val (.ref b), .val (.ref (if own_of (own_F sel raw) 4 then wX else wJ)), .val (.int (0 : Int32)), .unset, .unset, .unset]) rfl (q := 175) rfl ?_
          refine g_iload X109 hx (hb hby at_175) (v := (0 : Int32)) rfl (q := 177) rfl ?_
          refine g_if_eq X109 hx (hb hby at_177) (by decide) (q := 184) (by decide) (q2 := 180) rfl (fun hb177 => ?_) (fun hb177 => absurd hb177 (by decide))
          refine g_iconst X109 hx (hb hby at_184) (n := (0 : Int32)) (by decide) (q := 185) rfl ?_
          refine g_istore X109 hx (hb hby at_185) (L' := #[.val (.int p1), .val (.int sel), .val (.long raw), .second, .val (.int (4 : Int32)), .val (.int (own_pick sel raw (0 : Int32))), .val (.int (own_pick sel raw (1 : Int32))), .val (.int (own_pick sel raw (2 : Int32))), .val (.int (own_pick sel raw (3 : Int32))), .val (.int (own_pick sel raw (4 : Int32))), .val (.int (own_pick sel raw (5 : Int32))), .val (.ref b), .val (.ref (if own_of (own_F sel raw) 4 then wX else wJ)), .val (.int (0 : Int32)), .val (.int (0 : Int32)), .unset, .unset]) rfl (q := 187) rfl ?_
          have hst : own_st (own_F sel raw) 4 = 0 := by simp [own_st, own_mm, show own_F sel raw 0 = -17 from hb151, show own_F sel raw 1 = -69 from hb158, (show ¬ own_F sel raw 2 = -65 from hb165)]
          have hof : own_of (own_F sel raw) 4 = own_scan (own_F sel raw) (4 - 0) 0 := by
            show own_scan (own_F sel raw) (4 - own_st (own_F sel raw) 4) (own_st (own_F sel raw) 4) = _
            rw [hst]
          have hch : own_chain (own_F sel raw) (0 : Int32) (4 : Int32) = if own_of (own_F sel raw) 4 then 1 else 0 := by
            rw [hof]; exact own_chain_of (own_F sel raw) 4 0 (by decide) (by decide) (by decide)
          exact J187 _ _ _ _ _ _ _ _ X109 e109 N103 f106 f107 (own_got hch)
        · refine g_iconst X109 hx (hb hby at_168) (n := (1 : Int32)) (by decide) (q := 169) rfl ?_
          refine g_goto X109 hx (hb hby at_169) (by decide) (q := 173) (by decide) ?_
          refine g_istore X109 hx (hb hby at_173) (L' := #[.val (.int p1), .val (.int sel), .val (.long raw), .second, .val (.int (4 : Int32)), .val (.int (own_pick sel raw (0 : Int32))), .val (.int (own_pick sel raw (1 : Int32))), .val (.int (own_pick sel raw (2 : Int32))), .val (.int (own_pick sel raw (3 : Int32))), .val (.int (own_pick sel raw (4 : Int32))), .val (.int (own_pick sel raw (5 : Int32))), .val (.ref b), .val (.ref (if own_of (own_F sel raw) 4 then wX else wJ)), .val (.int (1 : Int32)), .unset, .unset, .unset]) rfl (q := 175) rfl ?_
          refine g_iload X109 hx (hb hby at_175) (v := (1 : Int32)) rfl (q := 177) rfl ?_
          refine g_if_eq X109 hx (hb hby at_177) (by decide) (q := 184) (by decide) (q2 := 180) rfl (fun hb177 => absurd hb177 (by decide)) (fun hb177 => ?_)
          refine g_iconst X109 hx (hb hby at_180) (n := (3 : Int32)) (by decide) (q := 181) rfl ?_
          refine g_goto X109 hx (hb hby at_181) (by decide) (q := 185) (by decide) ?_
          refine g_istore X109 hx (hb hby at_185) (L' := #[.val (.int p1), .val (.int sel), .val (.long raw), .second, .val (.int (4 : Int32)), .val (.int (own_pick sel raw (0 : Int32))), .val (.int (own_pick sel raw (1 : Int32))), .val (.int (own_pick sel raw (2 : Int32))), .val (.int (own_pick sel raw (3 : Int32))), .val (.int (own_pick sel raw (4 : Int32))), .val (.int (own_pick sel raw (5 : Int32))), .val (.ref b), .val (.ref (if own_of (own_F sel raw) 4 then wX else wJ)), .val (.int (1 : Int32)), .val (.int (3 : Int32)), .unset, .unset]) rfl (q := 187) rfl ?_
          have hst : own_st (own_F sel raw) 4 = 3 := by simp [own_st, own_mm, show own_F sel raw 0 = -17 from hb151, show own_F sel raw 1 = -69 from hb158, show own_F sel raw 2 = -65 from hb165]
          have hof : own_of (own_F sel raw) 4 = own_scan (own_F sel raw) (4 - 3) 3 := by
            show own_scan (own_F sel raw) (4 - own_st (own_F sel raw) 4) (own_st (own_F sel raw) 4) = _
            rw [hst]
          have hch : own_chain (own_F sel raw) (3 : Int32) (4 : Int32) = if own_of (own_F sel raw) 4 then 1 else 0 := by
            rw [hof]; exact own_chain_of (own_F sel raw) 4 3 (by decide) (by decide) (by decide)
          exact J187 _ _ _ _ _ _ _ _ X109 e109 N103 f106 f107 (own_got hch)
  · refine g_iload X24 hx (hb hby at_57) (v := (5 : Int32)) rfl (q := 59) rfl ?_
    refine g_newP X24 hx hZ (hw _ (List.mem_of_getElem? (i := 5) rfl)) e24 (hb hby at_59) (n := (5 : Int32)) (by decide) (cap := 6) (Nat.le_of_ble_eq_true rfl) (by decide) (Nat.le_of_ble_eq_true rfl) (Nat.le_of_ble_eq_true rfl) (q := 61) rfl fun T110 h110 c110 b g110 X110 e110 E110 A110 => ?_
    have ne_bm_b : bm ≠ b := Nat.ne_of_lt (Nat.lt_of_lt_of_le VM.lt (Nat.le_of_eq g110.symm))
    have ge_b : n0 ≤ b := Nat.le_trans Z0 (Nat.le_of_eq g110.symm)
    have z_110 := Nat.le_trans Z0 E110.1
    have f111 := (VM.ext E110)
    have f112 := (SB.ext E110)
    have f113 := (SX.ext E110)
    have f114 := (SJ.ext E110)
    have V110 : Af Z h110 b .byte 5 (fun _ => (.int (0 : Int32))) := Af.fresh A110
    refine g_astore X110 hx (hb hby at_61) rfl (L' := #[.val (.int p1), .val (.int sel), .val (.long raw), .second, .val (.int (5 : Int32)), .val (.int (own_pick sel raw (0 : Int32))), .val (.int (own_pick sel raw (1 : Int32))), .val (.int (own_pick sel raw (2 : Int32))), .val (.int (own_pick sel raw (3 : Int32))), .val (.int (own_pick sel raw (4 : Int32))), .val (.int (own_pick sel raw (5 : Int32))), .val (.ref b), .unset, .unset, .unset, .unset, .unset]) rfl (q := 63) rfl ?_
    refine g_iload X110 hx (hb hby at_63) (v := (5 : Int32)) rfl (q := 65) rfl ?_
    refine g_if_le X110 hx (hb hby at_65) (by decide) (q := 74) (by decide) (q2 := 68) rfl (fun hb65 => absurd hb65 (by decide)) (fun hb65 => ?_)
    refine g_aload X110 hx (hb hby at_68) (v := (.ref b)) rfl rfl (q := 70) rfl ?_
    refine g_iconst X110 hx (hb hby at_70) (n := (0 : Int32)) (by decide) (q := 71) rfl ?_
    refine g_iload X110 hx (hb hby at_71) (v := (own_pick sel raw (0 : Int32))) rfl (q := 73) rfl ?_
    refine g_bastore X110 hx hZ e110 V110 (by decide) (by decide) (y := own_pick sel raw (0 : Int32)) (own_pick_nar _ _ _) (hb hby at_73) (q := 74) rfl fun T115 h115 X115 e115 W115 U115 => ?_
    have N115 := Fr.snoc X115 (Fr.nil n0) ge_b
    have z_115 := Nat.le_trans z_110 (Keep.of_wr W115).1
    have f116 := (f111.other W115 ne_bm_b)
    have f117 := (f112.wr W115)
    have f118 := (f113.wr W115)
    have f119 := (f114.wr W115)
    refine g_iload X115 hx (hb hby at_74) (v := (5 : Int32)) rfl (q := 76) rfl ?_
    refine g_iconst X115 hx (hb hby at_76) (n := (1 : Int32)) (by decide) (q := 77) rfl ?_
    refine g_icmp_le X115 hx (hb hby at_77) (by decide) (q := 86) (by decide) (q2 := 80) rfl (fun hb77 => absurd hb77 (by decide)) (fun hb77 => ?_)
    refine g_aload X115 hx (hb hby at_80) (v := (.ref b)) rfl rfl (q := 82) rfl ?_
    refine g_iconst X115 hx (hb hby at_82) (n := (1 : Int32)) (by decide) (q := 83) rfl ?_
    refine g_iload X115 hx (hb hby at_83) (v := (own_pick sel raw (1 : Int32))) rfl (q := 85) rfl ?_
    refine g_bastore X115 hx hZ e115 U115 (by decide) (by decide) (y := own_pick sel raw (1 : Int32)) (own_pick_nar _ _ _) (hb hby at_85) (q := 86) rfl fun T120 h120 X120 e120 W120 U120 => ?_
    have N120 := Fr.snoc X120 N115 ge_b
    have z_120 := Nat.le_trans z_115 (Keep.of_wr W120).1
    have f121 := (f116.other W120 ne_bm_b)
    have f122 := (f117.wr W120)
    have f123 := (f118.wr W120)
    have f124 := (f119.wr W120)
    refine g_iload X120 hx (hb hby at_86) (v := (5 : Int32)) rfl (q := 88) rfl ?_
    refine g_iconst X120 hx (hb hby at_88) (n := (2 : Int32)) (by decide) (q := 89) rfl ?_
    refine g_icmp_le X120 hx (hb hby at_89) (by decide) (q := 98) (by decide) (q2 := 92) rfl (fun hb89 => absurd hb89 (by decide)) (fun hb89 => ?_)
    refine g_aload X120 hx (hb hby at_92) (v := (.ref b)) rfl rfl (q := 94) rfl ?_
    refine g_iconst X120 hx (hb hby at_94) (n := (2 : Int32)) (by decide) (q := 95) rfl ?_
    refine g_iload X120 hx (hb hby at_95) (v := (own_pick sel raw (2 : Int32))) rfl (q := 97) rfl ?_
    refine g_bastore X120 hx hZ e120 U120 (by decide) (by decide) (y := own_pick sel raw (2 : Int32)) (own_pick_nar _ _ _) (hb hby at_97) (q := 98) rfl fun T125 h125 X125 e125 W125 U125 => ?_
    have N125 := Fr.snoc X125 N120 ge_b
    have z_125 := Nat.le_trans z_120 (Keep.of_wr W125).1
    have f126 := (f121.other W125 ne_bm_b)
    have f127 := (f122.wr W125)
    have f128 := (f123.wr W125)
    have f129 := (f124.wr W125)
    refine g_iload X125 hx (hb hby at_98) (v := (5 : Int32)) rfl (q := 100) rfl ?_
    refine g_iconst X125 hx (hb hby at_100) (n := (3 : Int32)) (by decide) (q := 101) rfl ?_
    refine g_icmp_le X125 hx (hb hby at_101) (by decide) (q := 110) (by decide) (q2 := 104) rfl (fun hb101 => absurd hb101 (by decide)) (fun hb101 => ?_)
    refine g_aload X125 hx (hb hby at_104) (v := (.ref b)) rfl rfl (q := 106) rfl ?_
    refine g_iconst X125 hx (hb hby at_106) (n := (3 : Int32)) (by decide) (q := 107) rfl ?_
    refine g_iload X125 hx (hb hby at_107) (v := (own_pick sel raw (3 : Int32))) rfl (q := 109) rfl ?_
    refine g_bastore X125 hx hZ e125 U125 (by decide) (by decide) (y := own_pick sel raw (3 : Int32)) (own_pick_nar _ _ _) (hb hby at_109) (q := 110) rfl fun T130 h130 X130 e130 W130 U130 => ?_
    have N130 := Fr.snoc X130 N125 ge_b
    have z_130 := Nat.le_trans z_125 (Keep.of_wr W130).1
    have f131 := (f126.other W130 ne_bm_b)
    have f132 := (f127.wr W130)
    have f133 := (f128.wr W130)
    have f134 := (f129.wr W130)
    refine g_iload X130 hx (hb hby at_110) (v := (5 : Int32)) rfl (q := 112) rfl ?_
    refine g_iconst X130 hx (hb hby at_112) (n := (4 : Int32)) (by decide) (q := 113) rfl ?_
    refine g_icmp_le X130 hx (hb hby at_113) (by decide) (q := 122) (by decide) (q2 := 116) rfl (fun hb113 => absurd hb113 (by decide)) (fun hb113 => ?_)
    refine g_aload X130 hx (hb hby at_116) (v := (.ref b)) rfl rfl (q := 118) rfl ?_
    refine g_iconst X130 hx (hb hby at_118) (n := (4 : Int32)) (by decide) (q := 119) rfl ?_
    refine g_iload X130 hx (hb hby at_119) (v := (own_pick sel raw (4 : Int32))) rfl (q := 121) rfl ?_
    refine g_bastore X130 hx hZ e130 U130 (by decide) (by decide) (y := own_pick sel raw (4 : Int32)) (own_pick_nar _ _ _) (hb hby at_121) (q := 122) rfl fun T135 h135 X135 e135 W135 U135 => ?_
    have N135 := Fr.snoc X135 N130 ge_b
    have z_135 := Nat.le_trans z_130 (Keep.of_wr W135).1
    have f136 := (f131.other W135 ne_bm_b)
    have f137 := (f132.wr W135)
    have f138 := (f133.wr W135)
    have f139 := (f134.wr W135)
    refine g_iload X135 hx (hb hby at_122) (v := (5 : Int32)) rfl (q := 124) rfl ?_
    refine g_iconst X135 hx (hb hby at_124) (n := (5 : Int32)) (by decide) (q := 125) rfl ?_
    refine g_icmp_le X135 hx (hb hby at_125) (by decide) (q := 134) (by decide) (q2 := 128) rfl (fun hb125 => ?_) (fun hb125 => absurd hb125 (by decide))
    refine g_aload X135 hx (hb hby at_134) (v := (.ref b)) rfl rfl (q := 136) rfl ?_
    have V140 : Af Z h135 b .byte 5 (fun i => .int (own_F sel raw i)) := by
      refine Af.congr U135 fun i hi => ?_
      rcases (by omega : i = 0 ∨ i = 1 ∨ i = 2 ∨ i = 3 ∨ i = 4) with rfl | rfl | rfl | rfl | rfl <;> rfl
    refine g_callS X135 hx hZ hown (hw _ (List.mem_of_getElem? (i := 6) rfl)) (hw _ (List.mem_of_getElem? (i := 7) rfl)) (hw _ (List.mem_of_getElem? (i := 8) rfl)) (hw _ (List.mem_of_getElem? (i := 9) rfl)) (by decide) e135 (rmO l Z a0 hw b bm wX wJ (own_F sel raw) 5 (by decide) h135 V140 f136 f137 f138 f139) (by exact hml.symm) (argsL := [(.ref b)]) (rest := []) rfl rfl pd_6 rfl (Nat.le_of_ble_eq_true rfl) (Nat.le_of_ble_eq_true rfl) (Nat.le_of_ble_eq_true rfl) (Nat.le_of_ble_eq_true rfl) (hb hby at_136) (q := 139) rfl (g_pure rfl rfl fun T141 X141 e141 => ?_)
    show Go p e below _ (T141.setTop (mkF m 139 #[.val (.int p1), .val (.int sel), .val (.long raw), .second, .val (.int (5 : Int32)), .val (.int (own_pick sel raw (0 : Int32))), .val (.int (own_pick sel raw (1 : Int32))), .val (.int (own_pick sel raw (2 : Int32))), .val (.int (own_pick sel raw (3 : Int32))), .val (.int (own_pick sel raw (4 : Int32))), .val (.int (own_pick sel raw (5 : Int32))), .val (.ref b), .unset, .unset, .unset, .unset, .unset] [(.ref (if own_of (own_F sel raw) 5 then wX else wJ))]))
    refine g_astore X141 hx (hb hby at_139) rfl (L' := #[.val (.int p1), .val (.int sel), .val (.long raw), .second, .val (.int (5 : Int32)), .val (.int (own_pick sel raw (0 : Int32))), .val (.int (own_pick sel raw (1 : Int32))), .val (.int (own_pick sel raw (2 : Int32))), .val (.int (own_pick sel raw (3 : Int32))), .val (.int (own_pick sel raw (4 : Int32))), .val (.int (own_pick sel raw (5 : Int32))), .val (.ref b), .val (.ref (if own_of (own_F sel raw) 5 then wX else wJ)), .unset, .unset, .unset, .unset]) rfl (q := 141) rfl ?_
    refine g_iload X141 hx (hb hby at_141) (v := (5 : Int32)) rfl (q := 143) rfl ?_
    refine g_iconst X141 hx (hb hby at_143) (n := (3 : Int32)) (by decide) (q := 144) rfl ?_
    refine g_icmp_lt X141 hx (hb hby at_144) (by decide) (q := 172) (by decide) (q2 := 147) rfl (fun hb144 => absurd hb144 (by decide)) (fun hb144 => ?_)
    refine g_iload X141 hx (hb hby at_147) (v := (own_pick sel raw (0 : Int32))) rfl (q := 149) rfl ?_
    refine g_bipush X141 hx (hb hby at_149) (n := (-17 : Int32)) (by decide) (q := 151) rfl ?_
    refine g_icmp_ne X141 hx (hb hby at_151) (by decide) (q := 172) (by decide) (q2 := 154) rfl (fun hb151 => ?_) (fun hb151 => ?_)
    · refine g_iconst X141 hx (hb hby at_172) (n := (0 : Int32)) (by decide) (q := 173) rfl ?_
      refine g_istore X141 hx (hb hby at_173) (L' := #[.val (.int p1), .val (.int sel), .val (.long raw), .second, .val (.int (5 : Int32)), .val (.int (own_pick sel raw (0 : Int32))), .val (.int (own_pick sel raw (1 : Int32))), .val (.int (own_pick sel raw (2 : Int32))), .val (.int (own_pick sel raw (3 : Int32))), .val (.int (own_pick sel raw (4 : Int32))), .val (.int (own_pick sel raw (5 : Int32))), .val (.ref b), .val (.ref (if own_of (own_F sel raw) 5 then wX else wJ)), .val (.int (0 : Int32)), .unset, .unset, .unset]) rfl (q := 175) rfl ?_
      refine g_iload X141 hx (hb hby at_175) (v := (0 : Int32)) rfl (q := 177) rfl ?_
      refine g_if_eq X141 hx (hb hby at_177) (by decide) (q := 184) (by decide) (q2 := 180) rfl (fun hb177 => ?_) (fun hb177 => absurd hb177 (by decide))
      refine g_iconst X141 hx (hb hby at_184) (n := (0 : Int32)) (by decide) (q := 185) rfl ?_
      refine g_istore X141 hx (hb hby at_185) (L' := #[.val (.int p1), .val (.int sel), .val (.long raw), .second, .val (.int (5 : Int32)), .val (.int (own_pick sel raw (0 : Int32))), .val (.int (own_pick sel raw (1 : Int32))), .val (.int (own_pick sel raw (2 : Int32))), .val (.int (own_pick sel raw (3 : Int32))), .val (.int (own_pick sel raw (4 : Int32))), .val (.int (own_pick sel raw (5 : Int32))), .val (.ref b), .val (.ref (if own_of (own_F sel raw) 5 then wX else wJ)), .val (.int (0 : Int32)), .val (.int (0 : Int32)), .unset, .unset]) rfl (q := 187) rfl ?_
      have hst : own_st (own_F sel raw) 5 = 0 := by simp [own_st, own_mm, (show ¬ own_F sel raw 0 = -17 from hb151)]
      have hof : own_of (own_F sel raw) 5 = own_scan (own_F sel raw) (5 - 0) 0 := by
        show own_scan (own_F sel raw) (5 - own_st (own_F sel raw) 5) (own_st (own_F sel raw) 5) = _
        rw [hst]
      have hch : own_chain (own_F sel raw) (0 : Int32) (5 : Int32) = if own_of (own_F sel raw) 5 then 1 else 0 := by
        rw [hof]; exact own_chain_of (own_F sel raw) 5 0 (by decide) (by decide) (by decide)
      exact J187 _ _ _ _ _ _ _ _ X141 e141 N135 f138 f139 (own_got hch)
    · refine g_iload X141 hx (hb hby at_154) (v := (own_pick sel raw (1 : Int32))) rfl (q := 156) rfl ?_
      refine g_bipush X141 hx (hb hby at_156) (n := (-69 : Int32)) (by decide) (q := 158) rfl ?_
      refine g_icmp_ne X141 hx (hb hby at_158) (by decide) (q := 172) (by decide) (q2 := 161) rfl (fun hb158 => ?_) (fun hb158 => ?_)
      · refine g_iconst X141 hx (hb hby at_172) (n := (0 : Int32)) (by decide) (q := 173) rfl ?_
        refine g_istore X141 hx (hb hby at_173) (L' := #[.val (.int p1), .val (.int sel), .val (.long raw), .second, .val (.int (5 : Int32)), .val (.int (own_pick sel raw (0 : Int32))), .val (.int (own_pick sel raw (1 : Int32))), .val (.int (own_pick sel raw (2 : Int32))), .val (.int (own_pick sel raw (3 : Int32))), .val (.int (own_pick sel raw (4 : Int32))), .val (.int (own_pick sel raw (5 : Int32))), .val (.ref b), .val (.ref (if own_of (own_F sel raw) 5 then wX else wJ)), .val (.int (0 : Int32)), .unset, .unset, .unset]) rfl (q := 175) rfl ?_
        refine g_iload X141 hx (hb hby at_175) (v := (0 : Int32)) rfl (q := 177) rfl ?_
        refine g_if_eq X141 hx (hb hby at_177) (by decide) (q := 184) (by decide) (q2 := 180) rfl (fun hb177 => ?_) (fun hb177 => absurd hb177 (by decide))
        refine g_iconst X141 hx (hb hby at_184) (n := (0 : Int32)) (by decide) (q := 185) rfl ?_
        refine g_istore X141 hx (hb hby at_185) (L' := #[.val (.int p1), .val (.int sel), .val (.long raw), .second, .val (.int (5 : Int32)), .val (.int (own_pick sel raw (0 : Int32))), .val (.int (own_pick sel raw (1 : Int32))), .val (.int (own_pick sel raw (2 : Int32))), .val (.int (own_pick sel raw (3 : Int32))), .val (.int (own_pick sel raw (4 : Int32))), .val (.int (own_pick sel raw (5 : Int32))), .val (.ref b), .val (.ref (if own_of (own_F sel raw) 5 then wX else wJ)), .val (.int (0 : Int32)), .val (.int (0 : Int32)), .unset, .unset]) rfl (q := 187) rfl ?_
        have hst : own_st (own_F sel raw) 5 = 0 := by simp [own_st, own_mm, show own_F sel raw 0 = -17 from hb151, (show ¬ own_F sel raw 1 = -69 from hb158)]
        have hof : own_of (own_F sel raw) 5 = own_scan (own_F sel raw) (5 - 0) 0 := by
          show own_scan (own_F sel raw) (5 - own_st (own_F sel raw) 5) (own_st (own_F sel raw) 5) = _
          rw [hst]
        have hch : own_chain (own_F sel raw) (0 : Int32) (5 : Int32) = if own_of (own_F sel raw) 5 then 1 else 0 := by
          rw [hof]; exact own_chain_of (own_F sel raw) 5 0 (by decide) (by decide) (by decide)
        exact J187 _ _ _ _ _ _ _ _ X141 e141 N135 f138 f139 (own_got hch)
      · refine g_iload X141 hx (hb hby at_161) (v := (own_pick sel raw (2 : Int32))) rfl (q := 163) rfl ?_
        refine g_bipush X141 hx (hb hby at_163) (n := (-65 : Int32)) (by decide) (q := 165) rfl ?_
        refine g_icmp_ne X141 hx (hb hby at_165) (by decide) (q := 172) (by decide) (q2 := 168) rfl (fun hb165 => ?_) (fun hb165 => ?_)
        · refine g_iconst X141 hx (hb hby at_172) (n := (0 : Int32)) (by decide) (q := 173) rfl ?_
          refine g_istore X141 hx (hb hby at_173) (L' := #[.val (.int p1), .val (.int sel), .val (.long raw), .second, .val (.int (5 : Int32)), .val (.int (own_pick sel raw (0 : Int32))), .val (.int (own_pick sel raw (1 : Int32))), .val (.int (own_pick sel raw (2 : Int32))), .val (.int (own_pick sel raw (3 : Int32))), .val (.int (own_pick sel raw (4 : Int32))), .val (.int (own_pick sel raw (5 : Int32))), .val (.ref b), .val (.ref (if own_of (own_F sel raw) 5 then wX else wJ)), .val (.int (0 : Int32)), .unset, .unset, .unset]) rfl (q := 175) rfl ?_
          refine g_iload X141 hx (hb hby at_175) (v := (0 : Int32)) rfl (q := 177) rfl ?_
          refine g_if_eq X141 hx (hb hby at_177) (by decide) (q := 184) (by decide) (q2 := 180) rfl (fun hb177 => ?_) (fun hb177 => absurd hb177 (by decide))
          refine g_iconst X141 hx (hb hby at_184) (n := (0 : Int32)) (by decide) (q := 185) rfl ?_
          refine g_istore X141 hx (hb hby at_185) (L' := #[.val (.int p1), .val (.int sel), .val (.long raw), .second, .val (.int (5 : Int32)), .val (.int (own_pick sel raw (0 : Int32))), .val (.int (own_pick sel raw (1 : Int32))), .val (.int (own_pick sel raw (2 : Int32))), .val (.int (own_pick sel raw (3 : Int32))), .val (.int (own_pick sel raw (4 : Int32))), .val (.int (own_pick sel raw (5 : Int32))), .val (.ref b), .val (.ref (if own_of (own_F sel raw) 5 then wX else wJ)), .val (.int (0 : Int32)), .val (.int (0 : Int32)), .unset, .unset]) rfl (q := 187) rfl ?_
          have hst : own_st (own_F sel raw) 5 = 0 := by simp [own_st, own_mm, show own_F sel raw 0 = -17 from hb151, show own_F sel raw 1 = -69 from hb158, (show ¬ own_F sel raw 2 = -65 from hb165)]
          have hof : own_of (own_F sel raw) 5 = own_scan (own_F sel raw) (5 - 0) 0 := by
            show own_scan (own_F sel raw) (5 - own_st (own_F sel raw) 5) (own_st (own_F sel raw) 5) = _
            rw [hst]
          have hch : own_chain (own_F sel raw) (0 : Int32) (5 : Int32) = if own_of (own_F sel raw) 5 then 1 else 0 := by
            rw [hof]; exact own_chain_of (own_F sel raw) 5 0 (by decide) (by decide) (by decide)
          exact J187 _ _ _ _ _ _ _ _ X141 e141 N135 f138 f139 (own_got hch)
        · refine g_iconst X141 hx (hb hby at_168) (n := (1 : Int32)) (by decide) (q := 169) rfl ?_
          refine g_goto X141 hx (hb hby at_169) (by decide) (q := 173) (by decide) ?_
          refine g_istore X141 hx (hb hby at_173) (L' := #[.val (.int p1), .val (.int sel), .val (.long raw), .second, .val (.int (5 : Int32)), .val (.int (own_pick sel raw (0 : Int32))), .val (.int (own_pick sel raw (1 : Int32))), .val (.int (own_pick sel raw (2 : Int32))), .val (.int (own_pick sel raw (3 : Int32))), .val (.int (own_pick sel raw (4 : Int32))), .val (.int (own_pick sel raw (5 : Int32))), .val (.ref b), .val (.ref (if own_of (own_F sel raw) 5 then wX else wJ)), .val (.int (1 : Int32)), .unset, .unset, .unset]) rfl (q := 175) rfl ?_
          refine g_iload X141 hx (hb hby at_175) (v := (1 : Int32)) rfl (q := 177) rfl ?_
          refine g_if_eq X141 hx (hb hby at_177) (by decide) (q := 184) (by decide) (q2 := 180) rfl (fun hb177 => absurd hb177 (by decide)) (fun hb177 => ?_)
          refine g_iconst X141 hx (hb hby at_180) (n := (3 : Int32)) (by decide) (q := 181) rfl ?_
          refine g_goto X141 hx (hb hby at_181) (by decide) (q := 185) (by decide) ?_
          refine g_istore X141 hx (hb hby at_185) (L' := #[.val (.int p1), .val (.int sel), .val (.long raw), .second, .val (.int (5 : Int32)), .val (.int (own_pick sel raw (0 : Int32))), .val (.int (own_pick sel raw (1 : Int32))), .val (.int (own_pick sel raw (2 : Int32))), .val (.int (own_pick sel raw (3 : Int32))), .val (.int (own_pick sel raw (4 : Int32))), .val (.int (own_pick sel raw (5 : Int32))), .val (.ref b), .val (.ref (if own_of (own_F sel raw) 5 then wX else wJ)), .val (.int (1 : Int32)), .val (.int (3 : Int32)), .unset, .unset]) rfl (q := 187) rfl ?_
          have hst : own_st (own_F sel raw) 5 = 3 := by simp [own_st, own_mm, show own_F sel raw 0 = -17 from hb151, show own_F sel raw 1 = -69 from hb158, show own_F sel raw 2 = -65 from hb165]
          have hof : own_of (own_F sel raw) 5 = own_scan (own_F sel raw) (5 - 3) 3 := by
            show own_scan (own_F sel raw) (5 - own_st (own_F sel raw) 5) (own_st (own_F sel raw) 5) = _
            rw [hst]
          have hch : own_chain (own_F sel raw) (3 : Int32) (5 : Int32) = if own_of (own_F sel raw) 5 then 1 else 0 := by
            rw [hof]; exact own_chain_of (own_F sel raw) 5 3 (by decide) (by decide) (by decide)
          exact J187 _ _ _ _ _ _ _ _ X141 e141 N135 f138 f139 (own_got hch)
  · refine g_iload X24 hx (hb hby at_57) (v := (6 : Int32)) rfl (q := 59) rfl ?_
    refine g_newP X24 hx hZ (hw _ (List.mem_of_getElem? (i := 5) rfl)) e24 (hb hby at_59) (n := (6 : Int32)) (by decide) (cap := 6) (Nat.le_of_ble_eq_true rfl) (by decide) (Nat.le_of_ble_eq_true rfl) (Nat.le_of_ble_eq_true rfl) (q := 61) rfl fun T142 h142 c142 b g142 X142 e142 E142 A142 => ?_
    have ne_bm_b : bm ≠ b := Nat.ne_of_lt (Nat.lt_of_lt_of_le VM.lt (Nat.le_of_eq g142.symm))
    have ge_b : n0 ≤ b := Nat.le_trans Z0 (Nat.le_of_eq g142.symm)
    have z_142 := Nat.le_trans Z0 E142.1
    have f143 := (VM.ext E142)
    have f144 := (SB.ext E142)
    have f145 := (SX.ext E142)
    have f146 := (SJ.ext E142)
    have V142 : Af Z h142 b .byte 6 (fun _ => (.int (0 : Int32))) := Af.fresh A142
    refine g_astore X142 hx (hb hby at_61) rfl (L' := #[.val (.int p1), .val (.int sel), .val (.long raw), .second, .val (.int (6 : Int32)), .val (.int (own_pick sel raw (0 : Int32))), .val (.int (own_pick sel raw (1 : Int32))), .val (.int (own_pick sel raw (2 : Int32))), .val (.int (own_pick sel raw (3 : Int32))), .val (.int (own_pick sel raw (4 : Int32))), .val (.int (own_pick sel raw (5 : Int32))), .val (.ref b), .unset, .unset, .unset, .unset, .unset]) rfl (q := 63) rfl ?_
    refine g_iload X142 hx (hb hby at_63) (v := (6 : Int32)) rfl (q := 65) rfl ?_
    refine g_if_le X142 hx (hb hby at_65) (by decide) (q := 74) (by decide) (q2 := 68) rfl (fun hb65 => absurd hb65 (by decide)) (fun hb65 => ?_)
    refine g_aload X142 hx (hb hby at_68) (v := (.ref b)) rfl rfl (q := 70) rfl ?_
    refine g_iconst X142 hx (hb hby at_70) (n := (0 : Int32)) (by decide) (q := 71) rfl ?_
    refine g_iload X142 hx (hb hby at_71) (v := (own_pick sel raw (0 : Int32))) rfl (q := 73) rfl ?_
    refine g_bastore X142 hx hZ e142 V142 (by decide) (by decide) (y := own_pick sel raw (0 : Int32)) (own_pick_nar _ _ _) (hb hby at_73) (q := 74) rfl fun T147 h147 X147 e147 W147 U147 => ?_
    have N147 := Fr.snoc X147 (Fr.nil n0) ge_b
    have z_147 := Nat.le_trans z_142 (Keep.of_wr W147).1
    have f148 := (f143.other W147 ne_bm_b)
    have f149 := (f144.wr W147)
    have f150 := (f145.wr W147)
    have f151 := (f146.wr W147)
    refine g_iload X147 hx (hb hby at_74) (v := (6 : Int32)) rfl (q := 76) rfl ?_
    refine g_iconst X147 hx (hb hby at_76) (n := (1 : Int32)) (by decide) (q := 77) rfl ?_
    refine g_icmp_le X147 hx (hb hby at_77) (by decide) (q := 86) (by decide) (q2 := 80) rfl (fun hb77 => absurd hb77 (by decide)) (fun hb77 => ?_)
    refine g_aload X147 hx (hb hby at_80) (v := (.ref b)) rfl rfl (q := 82) rfl ?_
    refine g_iconst X147 hx (hb hby at_82) (n := (1 : Int32)) (by decide) (q := 83) rfl ?_
    refine g_iload X147 hx (hb hby at_83) (v := (own_pick sel raw (1 : Int32))) rfl (q := 85) rfl ?_
    refine g_bastore X147 hx hZ e147 U147 (by decide) (by decide) (y := own_pick sel raw (1 : Int32)) (own_pick_nar _ _ _) (hb hby at_85) (q := 86) rfl fun T152 h152 X152 e152 W152 U152 => ?_
    have N152 := Fr.snoc X152 N147 ge_b
    have z_152 := Nat.le_trans z_147 (Keep.of_wr W152).1
    have f153 := (f148.other W152 ne_bm_b)
    have f154 := (f149.wr W152)
    have f155 := (f150.wr W152)
    have f156 := (f151.wr W152)
    refine g_iload X152 hx (hb hby at_86) (v := (6 : Int32)) rfl (q := 88) rfl ?_
    refine g_iconst X152 hx (hb hby at_88) (n := (2 : Int32)) (by decide) (q := 89) rfl ?_
    refine g_icmp_le X152 hx (hb hby at_89) (by decide) (q := 98) (by decide) (q2 := 92) rfl (fun hb89 => absurd hb89 (by decide)) (fun hb89 => ?_)
    refine g_aload X152 hx (hb hby at_92) (v := (.ref b)) rfl rfl (q := 94) rfl ?_
    refine g_iconst X152 hx (hb hby at_94) (n := (2 : Int32)) (by decide) (q := 95) rfl ?_
    refine g_iload X152 hx (hb hby at_95) (v := (own_pick sel raw (2 : Int32))) rfl (q := 97) rfl ?_
    refine g_bastore X152 hx hZ e152 U152 (by decide) (by decide) (y := own_pick sel raw (2 : Int32)) (own_pick_nar _ _ _) (hb hby at_97) (q := 98) rfl fun T157 h157 X157 e157 W157 U157 => ?_
    have N157 := Fr.snoc X157 N152 ge_b
    have z_157 := Nat.le_trans z_152 (Keep.of_wr W157).1
    have f158 := (f153.other W157 ne_bm_b)
    have f159 := (f154.wr W157)
    have f160 := (f155.wr W157)
    have f161 := (f156.wr W157)
    refine g_iload X157 hx (hb hby at_98) (v := (6 : Int32)) rfl (q := 100) rfl ?_
    refine g_iconst X157 hx (hb hby at_100) (n := (3 : Int32)) (by decide) (q := 101) rfl ?_
    refine g_icmp_le X157 hx (hb hby at_101) (by decide) (q := 110) (by decide) (q2 := 104) rfl (fun hb101 => absurd hb101 (by decide)) (fun hb101 => ?_)
    refine g_aload X157 hx (hb hby at_104) (v := (.ref b)) rfl rfl (q := 106) rfl ?_
    refine g_iconst X157 hx (hb hby at_106) (n := (3 : Int32)) (by decide) (q := 107) rfl ?_
    refine g_iload X157 hx (hb hby at_107) (v := (own_pick sel raw (3 : Int32))) rfl (q := 109) rfl ?_
    refine g_bastore X157 hx hZ e157 U157 (by decide) (by decide) (y := own_pick sel raw (3 : Int32)) (own_pick_nar _ _ _) (hb hby at_109) (q := 110) rfl fun T162 h162 X162 e162 W162 U162 => ?_
    have N162 := Fr.snoc X162 N157 ge_b
    have z_162 := Nat.le_trans z_157 (Keep.of_wr W162).1
    have f163 := (f158.other W162 ne_bm_b)
    have f164 := (f159.wr W162)
    have f165 := (f160.wr W162)
    have f166 := (f161.wr W162)
    refine g_iload X162 hx (hb hby at_110) (v := (6 : Int32)) rfl (q := 112) rfl ?_
    refine g_iconst X162 hx (hb hby at_112) (n := (4 : Int32)) (by decide) (q := 113) rfl ?_
    refine g_icmp_le X162 hx (hb hby at_113) (by decide) (q := 122) (by decide) (q2 := 116) rfl (fun hb113 => absurd hb113 (by decide)) (fun hb113 => ?_)
    refine g_aload X162 hx (hb hby at_116) (v := (.ref b)) rfl rfl (q := 118) rfl ?_
    refine g_iconst X162 hx (hb hby at_118) (n := (4 : Int32)) (by decide) (q := 119) rfl ?_
    refine g_iload X162 hx (hb hby at_119) (v := (own_pick sel raw (4 : Int32))) rfl (q := 121) rfl ?_
    refine g_bastore X162 hx hZ e162 U162 (by decide) (by decide) (y := own_pick sel raw (4 : Int32)) (own_pick_nar _ _ _) (hb hby at_121) (q := 122) rfl fun T167 h167 X167 e167 W167 U167 => ?_
    have N167 := Fr.snoc X167 N162 ge_b
    have z_167 := Nat.le_trans z_162 (Keep.of_wr W167).1
    have f168 := (f163.other W167 ne_bm_b)
    have f169 := (f164.wr W167)
    have f170 := (f165.wr W167)
    have f171 := (f166.wr W167)
    refine g_iload X167 hx (hb hby at_122) (v := (6 : Int32)) rfl (q := 124) rfl ?_
    refine g_iconst X167 hx (hb hby at_124) (n := (5 : Int32)) (by decide) (q := 125) rfl ?_
    refine g_icmp_le X167 hx (hb hby at_125) (by decide) (q := 134) (by decide) (q2 := 128) rfl (fun hb125 => absurd hb125 (by decide)) (fun hb125 => ?_)
    refine g_aload X167 hx (hb hby at_128) (v := (.ref b)) rfl rfl (q := 130) rfl ?_
    refine g_iconst X167 hx (hb hby at_130) (n := (5 : Int32)) (by decide) (q := 131) rfl ?_
    refine g_iload X167 hx (hb hby at_131) (v := (own_pick sel raw (5 : Int32))) rfl (q := 133) rfl ?_
    refine g_bastore X167 hx hZ e167 U167 (by decide) (by decide) (y := own_pick sel raw (5 : Int32)) (own_pick_nar _ _ _) (hb hby at_133) (q := 134) rfl fun T172 h172 X172 e172 W172 U172 => ?_
    have N172 := Fr.snoc X172 N167 ge_b
    have z_172 := Nat.le_trans z_167 (Keep.of_wr W172).1
    have f173 := (f168.other W172 ne_bm_b)
    have f174 := (f169.wr W172)
    have f175 := (f170.wr W172)
    have f176 := (f171.wr W172)
    refine g_aload X172 hx (hb hby at_134) (v := (.ref b)) rfl rfl (q := 136) rfl ?_
    have V177 : Af Z h172 b .byte 6 (fun i => .int (own_F sel raw i)) := by
      refine Af.congr U172 fun i hi => ?_
      rcases (by omega : i = 0 ∨ i = 1 ∨ i = 2 ∨ i = 3 ∨ i = 4 ∨ i = 5) with rfl | rfl | rfl | rfl | rfl | rfl <;> rfl
    refine g_callS X172 hx hZ hown (hw _ (List.mem_of_getElem? (i := 6) rfl)) (hw _ (List.mem_of_getElem? (i := 7) rfl)) (hw _ (List.mem_of_getElem? (i := 8) rfl)) (hw _ (List.mem_of_getElem? (i := 9) rfl)) (by decide) e172 (rmO l Z a0 hw b bm wX wJ (own_F sel raw) 6 (by decide) h172 V177 f173 f174 f175 f176) (by exact hml.symm) (argsL := [(.ref b)]) (rest := []) rfl rfl pd_6 rfl (Nat.le_of_ble_eq_true rfl) (Nat.le_of_ble_eq_true rfl) (Nat.le_of_ble_eq_true rfl) (Nat.le_of_ble_eq_true rfl) (hb hby at_136) (q := 139) rfl (g_pure rfl rfl fun T178 X178 e178 => ?_)
    show Go p e below _ (T178.setTop (mkF m 139 #[.val (.int p1), .val (.int sel), .val (.long raw), .second, .val (.int (6 : Int32)), .val (.int (own_pick sel raw (0 : Int32))), .val (.int (own_pick sel raw (1 : Int32))), .val (.int (own_pick sel raw (2 : Int32))), .val (.int (own_pick sel raw (3 : Int32))), .val (.int (own_pick sel raw (4 : Int32))), .val (.int (own_pick sel raw (5 : Int32))), .val (.ref b), .unset, .unset, .unset, .unset, .unset] [(.ref (if own_of (own_F sel raw) 6 then wX else wJ))]))
    refine g_astore X178 hx (hb hby at_139) rfl (L' := #[.val (.int p1), .val (.int sel), .val (.long raw), .second, .val (.int (6 : Int32)), .val (.int (own_pick sel raw (0 : Int32))), .val (.int (own_pick sel raw (1 : Int32))), .val (.int (own_pick sel raw (2 : Int32))), .val (.int (own_pick sel raw (3 : Int32))), .val (.int (own_pick sel raw (4 : Int32))), .val (.int (own_pick sel raw (5 : Int32))), .val (.ref b), .val (.ref (if own_of (own_F sel raw) 6 then wX else wJ)), .unset, .unset, .unset, .unset]) rfl (q := 141) rfl ?_
    refine g_iload X178 hx (hb hby at_141) (v := (6 : Int32)) rfl (q := 143) rfl ?_
    refine g_iconst X178 hx (hb hby at_143) (n := (3 : Int32)) (by decide) (q := 144) rfl ?_
    refine g_icmp_lt X178 hx (hb hby at_144) (by decide) (q := 172) (by decide) (q2 := 147) rfl (fun hb144 => absurd hb144 (by decide)) (fun hb144 => ?_)
    refine g_iload X178 hx (hb hby at_147) (v := (own_pick sel raw (0 : Int32))) rfl (q := 149) rfl ?_
    refine g_bipush X178 hx (hb hby at_149) (n := (-17 : Int32)) (by decide) (q := 151) rfl ?_
    refine g_icmp_ne X178 hx (hb hby at_151) (by decide) (q := 172) (by decide) (q2 := 154) rfl (fun hb151 => ?_) (fun hb151 => ?_)
    · refine g_iconst X178 hx (hb hby at_172) (n := (0 : Int32)) (by decide) (q := 173) rfl ?_
      refine g_istore X178 hx (hb hby at_173) (L' := #[.val (.int p1), .val (.int sel), .val (.long raw), .second, .val (.int (6 : Int32)), .val (.int (own_pick sel raw (0 : Int32))), .val (.int (own_pick sel raw (1 : Int32))), .val (.int (own_pick sel raw (2 : Int32))), .val (.int (own_pick sel raw (3 : Int32))), .val (.int (own_pick sel raw (4 : Int32))), .val (.int (own_pick sel raw (5 : Int32))), .val (.ref b), .val (.ref (if own_of (own_F sel raw) 6 then wX else wJ)), .val (.int (0 : Int32)), .unset, .unset, .unset]) rfl (q := 175) rfl ?_
      refine g_iload X178 hx (hb hby at_175) (v := (0 : Int32)) rfl (q := 177) rfl ?_
      refine g_if_eq X178 hx (hb hby at_177) (by decide) (q := 184) (by decide) (q2 := 180) rfl (fun hb177 => ?_) (fun hb177 => absurd hb177 (by decide))
      refine g_iconst X178 hx (hb hby at_184) (n := (0 : Int32)) (by decide) (q := 185) rfl ?_
      refine g_istore X178 hx (hb hby at_185) (L' := #[.val (.int p1), .val (.int sel), .val (.long raw), .second, .val (.int (6 : Int32)), .val (.int (own_pick sel raw (0 : Int32))), .val (.int (own_pick sel raw (1 : Int32))), .val (.int (own_pick sel raw (2 : Int32))), .val (.int (own_pick sel raw (3 : Int32))), .val (.int (own_pick sel raw (4 : Int32))), .val (.int (own_pick sel raw (5 : Int32))), .val (.ref b), .val (.ref (if own_of (own_F sel raw) 6 then wX else wJ)), .val (.int (0 : Int32)), .val (.int (0 : Int32)), .unset, .unset]) rfl (q := 187) rfl ?_
      have hst : own_st (own_F sel raw) 6 = 0 := by simp [own_st, own_mm, (show ¬ own_F sel raw 0 = -17 from hb151)]
      have hof : own_of (own_F sel raw) 6 = own_scan (own_F sel raw) (6 - 0) 0 := by
        show own_scan (own_F sel raw) (6 - own_st (own_F sel raw) 6) (own_st (own_F sel raw) 6) = _
        rw [hst]
      have hch : own_chain (own_F sel raw) (0 : Int32) (6 : Int32) = if own_of (own_F sel raw) 6 then 1 else 0 := by
        rw [hof]; exact own_chain_of (own_F sel raw) 6 0 (by decide) (by decide) (by decide)
      exact J187 _ _ _ _ _ _ _ _ X178 e178 N172 f175 f176 (own_got hch)
    · refine g_iload X178 hx (hb hby at_154) (v := (own_pick sel raw (1 : Int32))) rfl (q := 156) rfl ?_
      refine g_bipush X178 hx (hb hby at_156) (n := (-69 : Int32)) (by decide) (q := 158) rfl ?_
      refine g_icmp_ne X178 hx (hb hby at_158) (by decide) (q := 172) (by decide) (q2 := 161) rfl (fun hb158 => ?_) (fun hb158 => ?_)
      · refine g_iconst X178 hx (hb hby at_172) (n := (0 : Int32)) (by decide) (q := 173) rfl ?_
        refine g_istore X178 hx (hb hby at_173) (L' := #[.val (.int p1), .val (.int sel), .val (.long raw), .second, .val (.int (6 : Int32)), .val (.int (own_pick sel raw (0 : Int32))), .val (.int (own_pick sel raw (1 : Int32))), .val (.int (own_pick sel raw (2 : Int32))), .val (.int (own_pick sel raw (3 : Int32))), .val (.int (own_pick sel raw (4 : Int32))), .val (.int (own_pick sel raw (5 : Int32))), .val (.ref b), .val (.ref (if own_of (own_F sel raw) 6 then wX else wJ)), .val (.int (0 : Int32)), .unset, .unset, .unset]) rfl (q := 175) rfl ?_
        refine g_iload X178 hx (hb hby at_175) (v := (0 : Int32)) rfl (q := 177) rfl ?_
        refine g_if_eq X178 hx (hb hby at_177) (by decide) (q := 184) (by decide) (q2 := 180) rfl (fun hb177 => ?_) (fun hb177 => absurd hb177 (by decide))
        refine g_iconst X178 hx (hb hby at_184) (n := (0 : Int32)) (by decide) (q := 185) rfl ?_
        refine g_istore X178 hx (hb hby at_185) (L' := #[.val (.int p1), .val (.int sel), .val (.long raw), .second, .val (.int (6 : Int32)), .val (.int (own_pick sel raw (0 : Int32))), .val (.int (own_pick sel raw (1 : Int32))), .val (.int (own_pick sel raw (2 : Int32))), .val (.int (own_pick sel raw (3 : Int32))), .val (.int (own_pick sel raw (4 : Int32))), .val (.int (own_pick sel raw (5 : Int32))), .val (.ref b), .val (.ref (if own_of (own_F sel raw) 6 then wX else wJ)), .val (.int (0 : Int32)), .val (.int (0 : Int32)), .unset, .unset]) rfl (q := 187) rfl ?_
        have hst : own_st (own_F sel raw) 6 = 0 := by simp [own_st, own_mm, show own_F sel raw 0 = -17 from hb151, (show ¬ own_F sel raw 1 = -69 from hb158)]
        have hof : own_of (own_F sel raw) 6 = own_scan (own_F sel raw) (6 - 0) 0 := by
          show own_scan (own_F sel raw) (6 - own_st (own_F sel raw) 6) (own_st (own_F sel raw) 6) = _
          rw [hst]
        have hch : own_chain (own_F sel raw) (0 : Int32) (6 : Int32) = if own_of (own_F sel raw) 6 then 1 else 0 := by
          rw [hof]; exact own_chain_of (own_F sel raw) 6 0 (by decide) (by decide) (by decide)
        exact J187 _ _ _ _ _ _ _ _ X178 e178 N172 f175 f176 (own_got hch)
      · refine g_iload X178 hx (hb hby at_161) (v := (own_pick sel raw (2 : Int32))) rfl (q := 163) rfl ?_
        refine g_bipush X178 hx (hb hby at_163) (n := (-65 : Int32)) (by decide) (q := 165) rfl ?_
        refine g_icmp_ne X178 hx (hb hby at_165) (by decide) (q := 172) (by decide) (q2 := 168) rfl (fun hb165 => ?_) (fun hb165 => ?_)
        · refine g_iconst X178 hx (hb hby at_172) (n := (0 : Int32)) (by decide) (q := 173) rfl ?_
          refine g_istore X178 hx (hb hby at_173) (L' := #[.val (.int p1), .val (.int sel), .val (.long raw), .second, .val (.int (6 : Int32)), .val (.int (own_pick sel raw (0 : Int32))), .val (.int (own_pick sel raw (1 : Int32))), .val (.int (own_pick sel raw (2 : Int32))), .val (.int (own_pick sel raw (3 : Int32))), .val (.int (own_pick sel raw (4 : Int32))), .val (.int (own_pick sel raw (5 : Int32))), .val (.ref b), .val (.ref (if own_of (own_F sel raw) 6 then wX else wJ)), .val (.int (0 : Int32)), .unset, .unset, .unset]) rfl (q := 175) rfl ?_
          refine g_iload X178 hx (hb hby at_175) (v := (0 : Int32)) rfl (q := 177) rfl ?_
          refine g_if_eq X178 hx (hb hby at_177) (by decide) (q := 184) (by decide) (q2 := 180) rfl (fun hb177 => ?_) (fun hb177 => absurd hb177 (by decide))
          refine g_iconst X178 hx (hb hby at_184) (n := (0 : Int32)) (by decide) (q := 185) rfl ?_
          refine g_istore X178 hx (hb hby at_185) (L' := #[.val (.int p1), .val (.int sel), .val (.long raw), .second, .val (.int (6 : Int32)), .val (.int (own_pick sel raw (0 : Int32))), .val (.int (own_pick sel raw (1 : Int32))), .val (.int (own_pick sel raw (2 : Int32))), .val (.int (own_pick sel raw (3 : Int32))), .val (.int (own_pick sel raw (4 : Int32))), .val (.int (own_pick sel raw (5 : Int32))), .val (.ref b), .val (.ref (if own_of (own_F sel raw) 6 then wX else wJ)), .val (.int (0 : Int32)), .val (.int (0 : Int32)), .unset, .unset]) rfl (q := 187) rfl ?_
          have hst : own_st (own_F sel raw) 6 = 0 := by simp [own_st, own_mm, show own_F sel raw 0 = -17 from hb151, show own_F sel raw 1 = -69 from hb158, (show ¬ own_F sel raw 2 = -65 from hb165)]
          have hof : own_of (own_F sel raw) 6 = own_scan (own_F sel raw) (6 - 0) 0 := by
            show own_scan (own_F sel raw) (6 - own_st (own_F sel raw) 6) (own_st (own_F sel raw) 6) = _
            rw [hst]
          have hch : own_chain (own_F sel raw) (0 : Int32) (6 : Int32) = if own_of (own_F sel raw) 6 then 1 else 0 := by
            rw [hof]; exact own_chain_of (own_F sel raw) 6 0 (by decide) (by decide) (by decide)
          exact J187 _ _ _ _ _ _ _ _ X178 e178 N172 f175 f176 (own_got hch)
        · refine g_iconst X178 hx (hb hby at_168) (n := (1 : Int32)) (by decide) (q := 169) rfl ?_
          refine g_goto X178 hx (hb hby at_169) (by decide) (q := 173) (by decide) ?_
          refine g_istore X178 hx (hb hby at_173) (L' := #[.val (.int p1), .val (.int sel), .val (.long raw), .second, .val (.int (6 : Int32)), .val (.int (own_pick sel raw (0 : Int32))), .val (.int (own_pick sel raw (1 : Int32))), .val (.int (own_pick sel raw (2 : Int32))), .val (.int (own_pick sel raw (3 : Int32))), .val (.int (own_pick sel raw (4 : Int32))), .val (.int (own_pick sel raw (5 : Int32))), .val (.ref b), .val (.ref (if own_of (own_F sel raw) 6 then wX else wJ)), .val (.int (1 : Int32)), .unset, .unset, .unset]) rfl (q := 175) rfl ?_
          refine g_iload X178 hx (hb hby at_175) (v := (1 : Int32)) rfl (q := 177) rfl ?_
          refine g_if_eq X178 hx (hb hby at_177) (by decide) (q := 184) (by decide) (q2 := 180) rfl (fun hb177 => absurd hb177 (by decide)) (fun hb177 => ?_)
          refine g_iconst X178 hx (hb hby at_180) (n := (3 : Int32)) (by decide) (q := 181) rfl ?_
          refine g_goto X178 hx (hb hby at_181) (by decide) (q := 185) (by decide) ?_
          refine g_istore X178 hx (hb hby at_185) (L' := #[.val (.int p1), .val (.int sel), .val (.long raw), .second, .val (.int (6 : Int32)), .val (.int (own_pick sel raw (0 : Int32))), .val (.int (own_pick sel raw (1 : Int32))), .val (.int (own_pick sel raw (2 : Int32))), .val (.int (own_pick sel raw (3 : Int32))), .val (.int (own_pick sel raw (4 : Int32))), .val (.int (own_pick sel raw (5 : Int32))), .val (.ref b), .val (.ref (if own_of (own_F sel raw) 6 then wX else wJ)), .val (.int (1 : Int32)), .val (.int (3 : Int32)), .unset, .unset]) rfl (q := 187) rfl ?_
          have hst : own_st (own_F sel raw) 6 = 3 := by simp [own_st, own_mm, show own_F sel raw 0 = -17 from hb151, show own_F sel raw 1 = -69 from hb158, show own_F sel raw 2 = -65 from hb165]
          have hof : own_of (own_F sel raw) 6 = own_scan (own_F sel raw) (6 - 3) 3 := by
            show own_scan (own_F sel raw) (6 - own_st (own_F sel raw) 6) (own_st (own_F sel raw) 6) = _
            rw [hst]
          have hch : own_chain (own_F sel raw) (3 : Int32) (6 : Int32) = if own_of (own_F sel raw) 6 then 1 else 0 := by
            rw [hof]; exact own_chain_of (own_F sel raw) 6 3 (by decide) (by decide) (by decide)
          exact J187 _ _ _ _ _ _ _ _ X178 e178 N172 f175 f176 (own_got hch)
set_option maxRecDepth 65536 in
set_option maxHeartbeats 40000000 in
theorem comes_1 {Post : Tables → Env → Array Value → State → Outcome → State → Prop} (hpost : ∀ tb e args s v u, (limb_1_1.after args s (.returned v) u = true ∧ limb_1_2.after args s (.returned v) u = true ∧ True) → FrameEnd s (.returned v) u (Jvm.fieldLocs frame_1_writes args s ++ Jvm.arrayLocs frame_1_arrays args s ++ Jvm.staticLocs frame_1_statics s) 16 128 → Post tb e args s (.returned v) u) :
    ArmFor flags0 classFile x code maxLocals ret World_1 tables_1 room_1 Calls_1 rest_1 Pre_1 Post := by
  intro l hfl _ _ p e ha hc hk s m args below hf hA hF happ hP
  obtain ⟨hcalls, hrest, hpre⟩ := hP
  obtain ⟨-, -, -, hnamed, -, -, -, hat⟩ := (Spec.applies_iff hf).mp happ
  obtain ⟨hg, hn⟩ := and_e (Cond.before_iff.mp (show (Jvm.Cond.and given_1 narrow_1).before args s = true from hpre))
  obtain ⟨gc, gr0⟩ := and_e hg
  obtain ⟨ga0, gr1⟩ := and_e gr0
  obtain ⟨ga1, gr2⟩ := and_e gr1
  have ga2 := gr2
  obtain ⟨w0, w1, w2, rfl⟩ : ∃ w0 w1 w2 : Value, args = #[w0, w1, w2] := by
    have hs : args.size = 3 := by simpa [Cond.value, given_1] using gc
    obtain ⟨L⟩ := args
    match L, hs with
    | [w0, w1, w2], _ => exact ⟨w0, w1, w2, rfl⟩
  have hw := fun d (hd : d ∈ tables_1) => atoms_spec (ws := Jvm.Cond.code x code maxLocals ret :: tables_1) hat d (List.mem_cons_of_mem _ hd)
  have hfit : Fit s := fun {y c} hc i hi => by
    obtain ⟨ha, rfl⟩ := Array.getElem?_eq_some_iff.mp hc
    have q := List.all_eq_true.mp ((Array.all_eq_true_iff_forall_mem.mp hF) _ (Array.getElem_mem ha)) i (List.mem_range.mpr hi)
    simpa [Array.getElem?_eq_getElem hi] using q
  obtain ⟨i0, ei0⟩ := is_v ga0
  obtain rfl : w0 = (.int i0) := Option.some.inj ei0
  obtain ⟨i1, ei1⟩ := is_v ga1
  obtain rfl : w1 = (.int i1) := Option.some.inj ei1
  obtain ⟨i2, ei2⟩ := isL_v ga2
  obtain rfl : w2 = (.long i2) := Option.some.inj ei2
  obtain ⟨n1, nr1⟩ := and_e hn
  obtain ⟨n2, nr2⟩ := and_e nr1
  obtain ⟨n3, nr3⟩ := and_e nr2
  obtain ⟨n4, nr4⟩ := and_e nr3
  obtain ⟨n5, nr5⟩ := and_e nr4
  obtain ⟨n6, nr6⟩ := and_e nr5
  have n7 := nr6
  obtain ⟨bm, evb⟩ := arr_v n1
  have SB := Sta.start evb (Or.inr ⟨(hw _ (List.mem_of_getElem? (i := 8) rfl)), (hw _ (List.mem_of_getElem? (i := 11) rfl))⟩)
  obtain ⟨cl0, A0⟩ := Arr.start evb n1
  have L0 := own_lenN A0 evb n2
  obtain ⟨wJ, evj⟩ := exa_v n3
  have SJ := Sta.start evj (Or.inr ⟨(hw _ (List.mem_of_getElem? (i := 8) rfl)), (hw _ (List.mem_of_getElem? (i := 13) rfl))⟩)
  obtain ⟨wX, evx⟩ := exa_v n5
  have SX := Sta.start evx (Or.inr ⟨(hw _ (List.mem_of_getElem? (i := 8) rfl)), (hw _ (List.mem_of_getElem? (i := 33) rfl))⟩)
  have VM : Af s s.heap bm .byte 3 (fun i => .int (own_bom i)) := by
    refine ⟨cl0, A0, L0, fun i hi => ?_⟩
    rcases (by omega : i = 0 ∨ i = 1 ∨ i = 2) with rfl | rfl | rfl
    · exact own_el A0 evb n4
    · exact own_el A0 evb n6
    · exact own_el A0 evb n7
  obtain ⟨n, o, h1, h2, h3, _, L, rfl, ⟨rfl, N⟩, hq⟩ := rm0 l s _ hw i0 i1 i2 bm wX wJ s.heap s.heap.size (Nat.le_refl _) VM SB SX SJ _ rfl (own_mod7 _) tables_1 p e ha hc hk s m _ below hf ((Spec.applies_iff_loose hf).mp happ).1 ⟨rfl, State.Warmed39.refl s, rfl⟩ trivial
  refine ⟨n, _, h1, h2, h3, hpost _ _ _ _ _ _ ⟨Cond.after_iff.mpr rfl, Cond.after_iff.mpr (eq_i res_at (Term.int_eval (1)) rfl), trivial⟩ ⟨hq.1, hq.2.1, (hq.2.2.sift fun y hy => Or.inr (N y hy)).mono (by decide) (by decide)⟩⟩
theorem main_1_1 : Claimed_1_1 := comes_1 fun _ _ _ _ _ _ h hF => ⟨h.1, hF⟩
theorem main_1_2 : Claimed_1_2 := comes_1 fun _ _ _ _ _ _ h hF => ⟨h.2.1, hF⟩
end Jvm.Pilot.@@N@@
namespace Jvm.Pilot.@@N@@
open Jvm Jvm.ClassFile Sem Op Lib Jvm.Free Jvm.Stand Jvm.Pilot.@@N@@.Jvm.D
/-! MADE BY PROGRAM (witnessworld.py) out of the Statement's table words and the real class files: 14 classes; the members and pool entries that the words name. The judged class is class 1, her method 1. -/
namespace start1
open Jvm.ClassFile
def u (s : String) : CpInfo := .utf8 (stringToUtf16 s)
/-- a pool by its gaps: so many unusable entries, then the entry; so many at the end -/
def gap : Nat → List CpInfo → List CpInfo
  | 0, r => r
  | n + 1, r => .unusable :: gap n r
def poolList (es : List (Nat × CpInfo)) (last : Nat) : List CpInfo := es.foldr (fun e r => gap e.1 (e.2 :: r)) (gap last [])
def pool (es : List (Nat × CpInfo)) (last : Nat) : Array CpInfo := ⟨poolList es last⟩
def fileOf (pool : Array CpInfo) (this : Nat) (attrs : Array Attribute := #[]) (ms : Array MethodInfo := #[]) (fl : Nat := 33) (sup : Nat := 0) (ifs : Array Nat := #[]) (fds : Array FieldInfo := #[]) : ClassFile where
  minorVersion := 0
  majorVersion := 65
  constantPool := pool
  accessFlags := fl
  thisClass := this
  superClass := sup
  interfaces := ifs
  fields := fds
  methods := ms
  attributes := attrs
def plain (name : String) (sup : Option ClassId) : Class where
  name := name
  kind := .ordinary
  loader := none
  accessFlags := 33
  super := sup
  interfaces := #[]
  cf := none
  fields := #[]
  methods := #[]
  instanceTypes := #[]
  staticTypes := #[]
  resolved := #[]
  callSites := []
  init := .initialized
  statics := none
  mirror := none

def pool0 : Array CpInfo := pool [(5, u "<init>"), (0, u "()V"), (1, .class_ 10), (1, u "java/lang/Object")] 113

def k0m0 : Method := { name := "<init>", desc := "()V", sig := { parameters := [], returnType := none }, accessFlags := 1, code := none }
/-- java/lang/Object -/
def k0 : Class := { plain "java/lang/Object" none with
  accessFlags := 33
  interfaces := #[]
  cf := some (fileOf pool0 8 #[] #[{ accessFlags := 1, nameIndex := 5, descriptorIndex := 6, attributes := #[] }] 33 0 #[] #[])
  fields := #[]
  methods := #[k0m0]
  instanceTypes := #[]
  staticTypes := #[]
  resolved := Array.replicate 124 none
  statics := none }

def pool1 : Array CpInfo := pool [(2, .class_ 4), (1, u "java/lang/Object"), (0, u "<init>"), (0, u "()V"), (0, .integer 2147483647), (0, .methodref 9 10), (0, .class_ 11), (0, .nameAndType 12 13), (0, u "com/example/mend_lapses/mendlapses/engine/BodyFormatOfPinLaw"), (0, u "pick"), (0, u "(IJI)B"), (0, .methodref 15 16), (0, .class_ 17), (0, .nameAndType 18 19), (0, u "com/example/mend_lapses/mendlapses/engine/BodyFormat"), (0, u "of"), (0, u "([B)Lcom/example/mend_lapses/mendlapses/engine/BodyFormat;"), (0, .methodref 9 21), (0, .nameAndType 22 23), (0, u "fold"), (0, u "(ZBIII)Z"), (0, .fieldref 15 25), (0, .nameAndType 26 27), (0, u "XML"), (0, u "Lcom/example/mend_lapses/mendlapses/engine/BodyFormat;"), (0, .fieldref 15 29), (0, .nameAndType 30 27), (0, u "JSON"), (0, .methodref 9 32), (0, .nameAndType 33 34), (0, u "ws"), (0, u "(B)Z"), (2, u "law"), (0, u "(IIJ)Z")] 5

def k1m0 : Method := { name := "<init>", desc := "()V", sig := { parameters := [], returnType := none }, accessFlags := 1, code := none }
def k1c1 : Code := { maxStack := 5, maxLocals := 17, code := code, exceptionTable := #[], attributes := #[] }
def k1m1 : Method := { name := "law", desc := "(IIJ)Z", sig := { parameters := [.int, .int, .long], returnType := some .boolean }, accessFlags := 9, code := some k1c1 }
def k1c2 : Code := { maxStack := 4, maxLocals := 5, code := method_3_code, exceptionTable := #[], attributes := #[] }
def k1m2 : Method := { name := "pick", desc := "(IJI)B", sig := { parameters := [.int, .long, .int], returnType := some .byte }, accessFlags := 10, code := some k1c2 }
def k1c3 : Code := { maxStack := 2, maxLocals := 1, code := method_4_code, exceptionTable := #[], attributes := #[] }
def k1m3 : Method := { name := "ws", desc := "(B)Z", sig := { parameters := [.byte], returnType := some .boolean }, accessFlags := 10, code := some k1c3 }
def k1c4 : Code := { maxStack := 2, maxLocals := 5, code := method_5_code, exceptionTable := #[], attributes := #[] }
def k1m4 : Method := { name := "fold", desc := "(ZBIII)Z", sig := { parameters := [.boolean, .byte, .int, .int, .int], returnType := some .boolean }, accessFlags := 10, code := some k1c4 }
/-- com/example/mend_lapses/mendlapses/engine/BodyFormatOfPinLaw -/
def k1 : Class := { plain "com/example/mend_lapses/mendlapses/engine/BodyFormatOfPinLaw" (some 0) with
  accessFlags := 49
  interfaces := #[]
  cf := some (fileOf pool1 9 #[] #[{ accessFlags := 1, nameIndex := 5, descriptorIndex := 6, attributes := #[] }, { accessFlags := 9, nameIndex := 37, descriptorIndex := 38, attributes := #[] }, { accessFlags := 10, nameIndex := 12, descriptorIndex := 13, attributes := #[] }, { accessFlags := 10, nameIndex := 33, descriptorIndex := 34, attributes := #[] }, { accessFlags := 10, nameIndex := 22, descriptorIndex := 23, attributes := #[] }] 49 2 #[] #[])
  fields := #[]
  methods := #[k1m0, k1m1, k1m2, k1m3, k1m4]
  instanceTypes := #[]
  staticTypes := #[]
  resolved := Array.replicate 44 none
  statics := none }

def pool2 : Array CpInfo := pool [(1, .class_ 2), (0, u "java/lang/constant/Constable"), (0, .class_ 4), (0, u "java/lang/Object")] 6

/-- java/lang/constant/Constable -/
def k2 : Class := { plain "java/lang/constant/Constable" (some 0) with
  accessFlags := 1537
  interfaces := #[]
  cf := some (fileOf pool2 1 #[] #[] 1537 3 #[] #[])
  fields := #[]
  methods := #[]
  instanceTypes := #[]
  staticTypes := #[]
  resolved := Array.replicate 11 none
  statics := none }

def pool3 : Array CpInfo := pool [(1, .class_ 2), (0, u "java/lang/Comparable"), (0, .class_ 4), (0, u "java/lang/Object")] 7

/-- java/lang/Comparable -/
def k3 : Class := { plain "java/lang/Comparable" (some 0) with
  accessFlags := 1537
  interfaces := #[]
  cf := some (fileOf pool3 1 #[] #[] 1537 3 #[] #[])
  fields := #[]
  methods := #[]
  instanceTypes := #[]
  staticTypes := #[]
  resolved := Array.replicate 12 none
  statics := none }

def pool4 : Array CpInfo := pool [(1, .class_ 2), (0, u "java/io/Serializable"), (0, .class_ 4), (0, u "java/lang/Object")] 2

/-- java/io/Serializable -/
def k4 : Class := { plain "java/io/Serializable" (some 0) with
  accessFlags := 1537
  interfaces := #[]
  cf := some (fileOf pool4 1 #[] #[] 1537 3 #[] #[])
  fields := #[]
  methods := #[]
  instanceTypes := #[]
  staticTypes := #[]
  resolved := Array.replicate 7 none
  statics := none }

def pool5 : Array CpInfo := pool [(2, .class_ 4), (1, u "java/lang/Enum"), (0, u "name"), (0, u "Ljava/lang/String;"), (2, u "ordinal"), (0, u "I"), (1, .class_ 14), (1, u "java/lang/Object"), (4, u "hash"), (86, .class_ 108), (1, u "java/lang/Enum$EnumDesc"), (2, .class_ 112), (0, u "java/lang/constant/Constable"), (0, .class_ 114), (0, u "java/lang/Comparable"), (0, .class_ 116), (0, u "java/io/Serializable")] 87

/-- java/lang/Enum -/
def k5 : Class := { plain "java/lang/Enum" (some 0) with
  accessFlags := 1057
  interfaces := #[2, 3, 4]
  cf := some (fileOf pool5 2 #[.nestMembers #[106]] #[] 1057 12 #[111, 113, 115] #[{ accessFlags := 18, nameIndex := 5, descriptorIndex := 6, attributes := #[] }, { accessFlags := 18, nameIndex := 9, descriptorIndex := 10, attributes := #[] }, { accessFlags := 2, nameIndex := 19, descriptorIndex := 10, attributes := #[] }])
  fields := #[{ name := "name", type := (.object "java/lang/String"), accessFlags := 18, slot := 0, constantValue := 0 }, { name := "ordinal", type := .int, accessFlags := 18, slot := 1, constantValue := 0 }, { name := "hash", type := .int, accessFlags := 2, slot := 2, constantValue := 0 }]
  methods := #[]
  instanceTypes := #[(.object "java/lang/String"), .int, .int]
  staticTypes := #[]
  resolved := Array.replicate 204 none
  statics := none }

def pool6 : Array CpInfo := pool [(1, .class_ 2), (0, u "com/example/mend_lapses/mendlapses/engine/BodyFormat"), (0, .fieldref 1 4), (0, .nameAndType 5 6), (0, u "JSON"), (0, u "Lcom/example/mend_lapses/mendlapses/engine/BodyFormat;"), (0, .fieldref 1 8), (0, .nameAndType 9 6), (0, u "XML"), (2, u "$VALUES"), (0, u "[Lcom/example/mend_lapses/mendlapses/engine/BodyFormat;"), (6, .class_ 22), (1, u "java/lang/Enum"), (6, .fieldref 1 30), (0, .nameAndType 31 32), (0, u "UTF_8_BYTE_ORDER_MARK"), (0, u "[B"), (0, .methodref 34 35), (0, .class_ 36), (0, .nameAndType 37 38), (0, u "java/util/Arrays"), (0, u "equals"), (0, u "([BII[BII)Z"), (14, u "of"), (0, u "([B)Lcom/example/mend_lapses/mendlapses/engine/BodyFormat;")] 5

def k6c0 : Code := { maxStack := 6, maxLocals := 5, code := prog_1_method_4_code, exceptionTable := #[], attributes := #[] }
def k6m0 : Method := { name := "of", desc := "([B)Lcom/example/mend_lapses/mendlapses/engine/BodyFormat;", sig := { parameters := [(.array .byte)], returnType := some (.object "com/example/mend_lapses/mendlapses/engine/BodyFormat") }, accessFlags := 9, code := some k6c0 }
/-- com/example/mend_lapses/mendlapses/engine/BodyFormat -/
def k6 : Class := { plain "com/example/mend_lapses/mendlapses/engine/BodyFormat" (some 5) with
  accessFlags := 16433
  interfaces := #[]
  cf := some (fileOf pool6 1 #[] #[{ accessFlags := 9, nameIndex := 53, descriptorIndex := 54, attributes := #[] }] 16433 20 #[] #[{ accessFlags := 16409, nameIndex := 5, descriptorIndex := 6, attributes := #[] }, { accessFlags := 16409, nameIndex := 9, descriptorIndex := 6, attributes := #[] }, { accessFlags := 26, nameIndex := 31, descriptorIndex := 32, attributes := #[] }, { accessFlags := 4122, nameIndex := 12, descriptorIndex := 13, attributes := #[] }])
  fields := #[{ name := "JSON", type := (.object "com/example/mend_lapses/mendlapses/engine/BodyFormat"), accessFlags := 16409, slot := 0, constantValue := 0 }, { name := "XML", type := (.object "com/example/mend_lapses/mendlapses/engine/BodyFormat"), accessFlags := 16409, slot := 1, constantValue := 0 }, { name := "UTF_8_BYTE_ORDER_MARK", type := (.array .byte), accessFlags := 26, slot := 2, constantValue := 0 }, { name := "$VALUES", type := (.array (.object "com/example/mend_lapses/mendlapses/engine/BodyFormat")), accessFlags := 4122, slot := 3, constantValue := 0 }]
  methods := #[k6m0]
  instanceTypes := #[(.object "java/lang/String"), .int, .int]
  staticTypes := #[(.object "com/example/mend_lapses/mendlapses/engine/BodyFormat"), (.object "com/example/mend_lapses/mendlapses/engine/BodyFormat"), (.array .byte), (.array (.object "com/example/mend_lapses/mendlapses/engine/BodyFormat"))]
  resolved := Array.replicate 60 none
  statics := some 0 }

def pool7 : Array CpInfo := pool [(2, .class_ 4), (1, u "java/lang/Object"), (0, u "<init>"), (0, u "()V"), (6, .methodref 14 15), (0, .class_ 16), (0, .nameAndType 17 18), (0, u "java/util/Arrays"), (0, u "rangeCheck"), (0, u "(III)V"), (55, .class_ 76), (1, u "java/util/Arrays$NaturalOrder"), (36, .class_ 115), (1, u "java/util/Arrays$LegacyMergeSort"), (1, u "Z"), (128, .class_ 248), (1, u "jdk/internal/util/ArraysSupport"), (0, u "mismatch"), (25, .methodref 246 276), (0, .nameAndType 249 277), (0, u "([BI[BII)I"), (20, u "equals"), (76, .class_ 376), (0, u "java/util/Arrays$ArrayList"), (68, u "$assertionsDisabled"), (269, u "MIN_ARRAY_SORT_GRAN"), (0, u "I"), (2, u "INSERTIONSORT_THRESHOLD"), (111, u "([BII[BII)Z"), (143, .class_ 976), (0, u "java/util/Arrays$ArrayItr")] 52

def k7m0 : Method := { name := "<init>", desc := "()V", sig := { parameters := [], returnType := none }, accessFlags := 2, code := none }
def k7c1 : Code := { maxStack := 4, maxLocals := 3, code := jdk_65_method_30_code, exceptionTable := #[], attributes := #[] }
def k7m1 : Method := { name := "rangeCheck", desc := "(III)V", sig := { parameters := [.int, .int, .int], returnType := none }, accessFlags := 8, code := some k7c1 }
def k7c2 : Code := { maxStack := 5, maxLocals := 8, code := jdk_65_method_90_code, exceptionTable := #[], attributes := #[] }
def k7m2 : Method := { name := "equals", desc := "([BII[BII)Z", sig := { parameters := [(.array .byte), .int, .int, (.array .byte), .int, .int], returnType := some .boolean }, accessFlags := 9, code := some k7c2 }
/-- java/util/Arrays -/
def k7 : Class := { plain "java/util/Arrays" (some 0) with
  accessFlags := 49
  interfaces := #[]
  cf := some (fileOf pool7 14 #[.nestMembers #[975, 375, 113, 74]] #[{ accessFlags := 2, nameIndex := 5, descriptorIndex := 6, attributes := #[] }, { accessFlags := 8, nameIndex := 17, descriptorIndex := 18, attributes := #[] }, { accessFlags := 9, nameIndex := 298, descriptorIndex := 831, attributes := #[] }] 49 2 #[] #[{ accessFlags := 26, nameIndex := 715, descriptorIndex := 716, attributes := #[] }, { accessFlags := 26, nameIndex := 719, descriptorIndex := 716, attributes := #[] }, { accessFlags := 4120, nameIndex := 445, descriptorIndex := 117, attributes := #[] }])
  fields := #[{ name := "MIN_ARRAY_SORT_GRAN", type := .int, accessFlags := 26, slot := 0, constantValue := 0 }, { name := "INSERTIONSORT_THRESHOLD", type := .int, accessFlags := 26, slot := 1, constantValue := 0 }, { name := "$assertionsDisabled", type := .boolean, accessFlags := 4120, slot := 2, constantValue := 0 }]
  methods := #[k7m0, k7m1, k7m2]
  instanceTypes := #[]
  staticTypes := #[.int, .int, .boolean]
  resolved := Array.replicate 1029 none
  statics := none }

def pool8 : Array CpInfo := pool [(9, u "<init>"), (6, .class_ 18), (1, u "java/lang/Object"), (0, u "()V"), (1, .class_ 23), (1, u "jdk/internal/util/ArraysSupport"), (0, u "LOG2_ARRAY_LONG_INDEX_SCALE"), (0, u "I"), (2, u "U"), (0, u "Ljdk/internal/misc/Unsafe;"), (8, u "BIG_ENDIAN"), (0, u "Z"), (8, u "LOG2_BYTE_BIT_SIZE"), (4, u "LOG2_ARRAY_INT_INDEX_SCALE"), (54, u "JLA"), (0, u "Ljdk/internal/access/JavaLangAccess;"), (11, u "LOG2_ARRAY_BOOLEAN_INDEX_SCALE"), (9, u "LOG2_ARRAY_BYTE_INDEX_SCALE"), (5, u "LOG2_ARRAY_CHAR_INDEX_SCALE"), (5, u "LOG2_ARRAY_SHORT_INDEX_SCALE"), (5, u "mismatch"), (12, u "LOG2_ARRAY_FLOAT_INDEX_SCALE"), (24, u "LOG2_ARRAY_DOUBLE_INDEX_SCALE"), (89, u "T_BOOLEAN"), (2, u "T_CHAR"), (1, u "T_FLOAT"), (1, u "T_DOUBLE"), (1, u "T_BYTE"), (1, u "T_SHORT"), (1, u "T_INT"), (1, u "T_LONG"), (1, u "SOFT_MAX_ARRAY_LENGTH"), (42, u "([BI[BII)I")] 40

def k8m0 : Method := { name := "<init>", desc := "()V", sig := { parameters := [], returnType := none }, accessFlags := 2, code := none }
def k8c1 : Code := { maxStack := 8, maxLocals := 8, code := jdk_48_method_14_code, exceptionTable := #[], attributes := #[] }
def k8m1 : Method := { name := "mismatch", desc := "([BI[BII)I", sig := { parameters := [(.array .byte), .int, (.array .byte), .int, .int], returnType := some .int }, accessFlags := 9, code := some k8c1 }
/-- jdk/internal/util/ArraysSupport -/
def k8 : Class := { plain "jdk/internal/util/ArraysSupport" (some 0) with
  accessFlags := 33
  interfaces := #[]
  cf := some (fileOf pool8 21 #[] #[{ accessFlags := 2, nameIndex := 9, descriptorIndex := 19, attributes := #[] }, { accessFlags := 9, nameIndex := 149, descriptorIndex := 337, attributes := #[] }] 33 16 #[] #[{ accessFlags := 24, nameIndex := 28, descriptorIndex := 29, attributes := #[] }, { accessFlags := 26, nameIndex := 38, descriptorIndex := 39, attributes := #[] }, { accessFlags := 25, nameIndex := 121, descriptorIndex := 25, attributes := #[] }, { accessFlags := 25, nameIndex := 131, descriptorIndex := 25, attributes := #[] }, { accessFlags := 25, nameIndex := 137, descriptorIndex := 25, attributes := #[] }, { accessFlags := 25, nameIndex := 143, descriptorIndex := 25, attributes := #[] }, { accessFlags := 25, nameIndex := 53, descriptorIndex := 25, attributes := #[] }, { accessFlags := 25, nameIndex := 24, descriptorIndex := 25, attributes := #[] }, { accessFlags := 25, nameIndex := 162, descriptorIndex := 25, attributes := #[] }, { accessFlags := 25, nameIndex := 187, descriptorIndex := 25, attributes := #[] }, { accessFlags := 26, nameIndex := 48, descriptorIndex := 25, attributes := #[] }, { accessFlags := 25, nameIndex := 277, descriptorIndex := 25, attributes := #[] }, { accessFlags := 25, nameIndex := 280, descriptorIndex := 25, attributes := #[] }, { accessFlags := 25, nameIndex := 282, descriptorIndex := 25, attributes := #[] }, { accessFlags := 25, nameIndex := 284, descriptorIndex := 25, attributes := #[] }, { accessFlags := 25, nameIndex := 286, descriptorIndex := 25, attributes := #[] }, { accessFlags := 25, nameIndex := 288, descriptorIndex := 25, attributes := #[] }, { accessFlags := 25, nameIndex := 290, descriptorIndex := 25, attributes := #[] }, { accessFlags := 25, nameIndex := 292, descriptorIndex := 25, attributes := #[] }, { accessFlags := 26, nameIndex := 108, descriptorIndex := 109, attributes := #[] }, { accessFlags := 25, nameIndex := 294, descriptorIndex := 25, attributes := #[] }])
  fields := #[{ name := "U", type := (.object "jdk/internal/misc/Unsafe"), accessFlags := 24, slot := 0, constantValue := 0 }, { name := "BIG_ENDIAN", type := .boolean, accessFlags := 26, slot := 1, constantValue := 0 }, { name := "LOG2_ARRAY_BOOLEAN_INDEX_SCALE", type := .int, accessFlags := 25, slot := 2, constantValue := 0 }, { name := "LOG2_ARRAY_BYTE_INDEX_SCALE", type := .int, accessFlags := 25, slot := 3, constantValue := 0 }, { name := "LOG2_ARRAY_CHAR_INDEX_SCALE", type := .int, accessFlags := 25, slot := 4, constantValue := 0 }, { name := "LOG2_ARRAY_SHORT_INDEX_SCALE", type := .int, accessFlags := 25, slot := 5, constantValue := 0 }, { name := "LOG2_ARRAY_INT_INDEX_SCALE", type := .int, accessFlags := 25, slot := 6, constantValue := 0 }, { name := "LOG2_ARRAY_LONG_INDEX_SCALE", type := .int, accessFlags := 25, slot := 7, constantValue := 0 }, { name := "LOG2_ARRAY_FLOAT_INDEX_SCALE", type := .int, accessFlags := 25, slot := 8, constantValue := 0 }, { name := "LOG2_ARRAY_DOUBLE_INDEX_SCALE", type := .int, accessFlags := 25, slot := 9, constantValue := 0 }, { name := "LOG2_BYTE_BIT_SIZE", type := .int, accessFlags := 26, slot := 10, constantValue := 0 }, { name := "T_BOOLEAN", type := .int, accessFlags := 25, slot := 11, constantValue := 0 }, { name := "T_CHAR", type := .int, accessFlags := 25, slot := 12, constantValue := 0 }, { name := "T_FLOAT", type := .int, accessFlags := 25, slot := 13, constantValue := 0 }, { name := "T_DOUBLE", type := .int, accessFlags := 25, slot := 14, constantValue := 0 }, { name := "T_BYTE", type := .int, accessFlags := 25, slot := 15, constantValue := 0 }, { name := "T_SHORT", type := .int, accessFlags := 25, slot := 16, constantValue := 0 }, { name := "T_INT", type := .int, accessFlags := 25, slot := 17, constantValue := 0 }, { name := "T_LONG", type := .int, accessFlags := 25, slot := 18, constantValue := 0 }, { name := "JLA", type := (.object "jdk/internal/access/JavaLangAccess"), accessFlags := 26, slot := 19, constantValue := 0 }, { name := "SOFT_MAX_ARRAY_LENGTH", type := .int, accessFlags := 25, slot := 20, constantValue := 0 }]
  methods := #[k8m0, k8m1]
  instanceTypes := #[]
  staticTypes := #[(.object "jdk/internal/misc/Unsafe"), .boolean, .int, .int, .int, .int, .int, .int, .int, .int, .int, .int, .int, .int, .int, .int, .int, .int, .int, (.object "jdk/internal/access/JavaLangAccess"), .int]
  resolved := Array.replicate 378 none
  statics := none }

def pool9 : Array CpInfo := pool [(1, u "java/lang/Cloneable"), (0, .class_ 1), (0, u "java/lang/Object"), (0, .class_ 3)] 3

/-- java/lang/Cloneable -/
def k9 : Class := { plain "java/lang/Cloneable" (some 0) with
  accessFlags := 1537
  interfaces := #[]
  cf := some (fileOf pool9 2 #[] #[] 1537 4 #[] #[])
  fields := #[]
  methods := #[]
  instanceTypes := #[]
  staticTypes := #[]
  resolved := Array.replicate 8 none
  statics := none }

/-- the primitive byte -/
def k10 : Class := { plain "byte" none with kind := .primitive 'B', accessFlags := 0x411 }
/-- [B -/
def k11 : Class := { plain "[B" (some 0) with kind := .array 10 .byte, interfaces := #[9, 4], accessFlags := 1041 }

/-- the primitive int -/
def k12 : Class := { plain "int" none with kind := .primitive 'I', accessFlags := 0x411 }
/-- [I -/
def k13 : Class := { plain "[I" (some 0) with kind := .array 12 .int, interfaces := #[9, 4], accessFlags := 1041 }

def heap : Heap := #[{ cls := 6, slots := #[.ref 2, .ref 3, .ref 1, .null], vm := .statics 6 },
  { cls := 11, slots := #[.int (-17), .int (-69), .int (-65)], vm := .none },
  { cls := 6, slots := #[.null, .int 0, .int 0], vm := .none },
  { cls := 6, slots := #[.null, .int 1, .int 0], vm := .none }]
def classes : Array Class := #[k0, k1, k2, k3, k4, k5, k6, k7, k8, k9, k10, k11, k12, k13]
def interned : List (Array UInt16 × Addr) := []
def slotsUsed : Nat := 13
def theMethod : MethodId := ⟨1, 1⟩
def args0 : Array Value := #[.int 5, .int 7, .long 9]
def aboutOver (below : List Frame) : State where
  vm := { classes := classes, interned := interned.toArray }
  heap := heap
  slotsUsed := slotsUsed
  threads := #[{ frames := .invoking theMethod args0 :: below }]
def below0 : List Frame := [.native { method := ⟨0, 0⟩, args := #[] }]
def about1 : State := aboutOver below0
def p0 : Program := .bare "" "" ""
def e0 : Env := launch0.env 0 0 0
theorem w_frames : about1.frames = Frame.invoking theMethod args0 :: below0 := rfl
set_option maxRecDepth 65536 in
theorem w_args : argsFit about1.vm theMethod args0 = true := by decide +kernel
set_option maxRecDepth 65536 in
theorem w_heap : heapFits about1 = true := by decide +kernel
set_option maxRecDepth 65536 in
theorem w_runnable : about1.curStatus? = some .runnable := by decide +kernel
set_option maxRecDepth 65536 in
theorem w_alone : about1.alone = true := by decide +kernel
set_option maxRecDepth 65536 in
theorem w_named : about1.methodNamed? x = some theMethod := by decide +kernel
set_option maxRecDepth 65536 in
theorem w_hears : about1.hears theMethod below0 = true := by decide +kernel
set_option maxRecDepth 65536 in
theorem w_ripe : about1.ripe theMethod args0 below0 = true := by decide +kernel
theorem w_running : about1.status = .running := rfl
set_option maxRecDepth 65536 in
theorem w_room : about1.hasRoom e0.platform room_1 = true :=
  launch0.hasRoom_least _ room_1 (by decide +kernel) (by decide +kernel) (by decide +kernel) (by decide +kernel) (by decide +kernel) (by decide +kernel)
theorem allAtoms_all (ts : List Jvm.Cond) (a : Array Jvm.Value) (st : Jvm.State) : (allAtoms ts).before a st = ts.all (fun c => c.before a st) := by
  induction ts with
  | nil => rfl
  | cons c t ih =>
    show (Jvm.Cond.and c (allAtoms t)).before a st = _
    rw [Jvm.Cond.before_and, ih, List.all_cons]
def words1 : List Jvm.Cond := Jvm.Cond.code x code maxLocals ret :: tables_1
/-- a 'code' word, met by the world's own term for the bytes: nothing is compared byte by byte -/
theorem code_word {y : MethodName} {bytes : ByteArray} {mx : Nat} {rt : Option FieldType} {a : Array Value} {s : State} {m : MethodId} {meth : Method} {c : Code} (h1 : s.methodNamed? y = some m) (h2 : s.vm.method? m = some meth) (h3 : meth.code = some c) (h4 : c.code = bytes)
    (h5 : (c.maxLocals == mx && c.exceptionTable.isEmpty && decide (c.maxStack ≤ mostOperands) && decide (meth.sig.returnType = rt) && !meth.locks && decide (parseMethodDescriptor y.desc = some meth.sig)) = true) : (Jvm.Cond.code y bytes mx rt).before a s = true := by
  simp only [Bool.and_eq_true, beq_iff_eq, Bool.not_eq_true', decide_eq_true_eq] at h5
  obtain ⟨⟨⟨⟨⟨g1, g2⟩, g3⟩, g4⟩, g5⟩, g6⟩ := h5
  simp [Cond.before, Cond.holds, Cond.value, h1, h2, h3, h4, g1, g2, g3, g4, g5, g6]
def isCode : Jvm.Cond → Bool
  | .code _ _ _ _ => true
  | _ => false
theorem all_split {L : List Jvm.Cond} {P : Jvm.Cond → Bool} (h1 : L.all (fun c => isCode c || P c) = true) (h2 : ∀ c ∈ L.filter isCode, P c = true) : L.all P = true := by
  refine List.all_eq_true.mpr fun c hc => ?_
  have h := List.all_eq_true.mp h1 c hc
  rcases Bool.eq_false_or_eq_true (isCode c) with hi | hi
  · exact h2 c (List.mem_filter.mpr ⟨hc, hi⟩)
  · simpa [hi] using h
set_option maxRecDepth 65536 in
theorem w_c0 : (Jvm.Cond.code x code maxLocals ret).before args0 about1 = true := code_word (m := ⟨1, 1⟩) (meth := k1m1) (c := k1c1) (by decide +kernel) rfl rfl rfl (by decide +kernel)
set_option maxRecDepth 65536 in
theorem w_c1 : (Jvm.Cond.code ({ cls := "com/example/mend_lapses/mendlapses/engine/BodyFormatOfPinLaw", name := "pick", desc := "(IJI)B" } : Jvm.MethodName) method_3_code (5 : Nat) (Option.some Jvm.ClassFile.FieldType.byte)).before args0 about1 = true := code_word (m := ⟨1, 2⟩) (meth := k1m2) (c := k1c2) (by decide +kernel) rfl rfl rfl (by decide +kernel)
set_option maxRecDepth 65536 in
theorem w_c2 : (Jvm.Cond.code ({ cls := "com/example/mend_lapses/mendlapses/engine/BodyFormat", name := "of", desc := "([B)Lcom/example/mend_lapses/mendlapses/engine/BodyFormat;" } : Jvm.MethodName) prog_1_method_4_code (5 : Nat) (Option.some (Jvm.ClassFile.FieldType.object "com/example/mend_lapses/mendlapses/engine/BodyFormat"))).before args0 about1 = true := code_word (m := ⟨6, 0⟩) (meth := k6m0) (c := k6c0) (by decide +kernel) rfl rfl rfl (by decide +kernel)
set_option maxRecDepth 65536 in
theorem w_c3 : (Jvm.Cond.code ({ cls := "com/example/mend_lapses/mendlapses/engine/BodyFormatOfPinLaw", name := "fold", desc := "(ZBIII)Z" } : Jvm.MethodName) method_5_code (5 : Nat) (Option.some Jvm.ClassFile.FieldType.boolean)).before args0 about1 = true := code_word (m := ⟨1, 4⟩) (meth := k1m4) (c := k1c4) (by decide +kernel) rfl rfl rfl (by decide +kernel)
set_option maxRecDepth 65536 in
theorem w_c4 : (Jvm.Cond.code ({ cls := "java/util/Arrays", name := "equals", desc := "([BII[BII)Z" } : Jvm.MethodName) jdk_65_method_90_code (8 : Nat) (Option.some Jvm.ClassFile.FieldType.boolean)).before args0 about1 = true := code_word (m := ⟨7, 2⟩) (meth := k7m2) (c := k7c2) (by decide +kernel) rfl rfl rfl (by decide +kernel)
set_option maxRecDepth 65536 in
theorem w_c5 : (Jvm.Cond.code ({ cls := "java/util/Arrays", name := "rangeCheck", desc := "(III)V" } : Jvm.MethodName) jdk_65_method_30_code (3 : Nat) (Option.none : Option Jvm.ClassFile.FieldType)).before args0 about1 = true := code_word (m := ⟨7, 1⟩) (meth := k7m1) (c := k7c1) (by decide +kernel) rfl rfl rfl (by decide +kernel)
set_option maxRecDepth 65536 in
theorem w_c6 : (Jvm.Cond.code ({ cls := "jdk/internal/util/ArraysSupport", name := "mismatch", desc := "([BI[BII)I" } : Jvm.MethodName) jdk_48_method_14_code (8 : Nat) (Option.some Jvm.ClassFile.FieldType.int)).before args0 about1 = true := code_word (m := ⟨8, 1⟩) (meth := k8m1) (c := k8c1) (by decide +kernel) rfl rfl rfl (by decide +kernel)
set_option maxRecDepth 65536 in
theorem w_c7 : (Jvm.Cond.code ({ cls := "com/example/mend_lapses/mendlapses/engine/BodyFormatOfPinLaw", name := "ws", desc := "(B)Z" } : Jvm.MethodName) method_4_code (1 : Nat) (Option.some Jvm.ClassFile.FieldType.boolean)).before args0 about1 = true := code_word (m := ⟨1, 3⟩) (meth := k1m3) (c := k1c3) (by decide +kernel) rfl rfl rfl (by decide +kernel)
def codes1 : List Jvm.Cond := [Jvm.Cond.code x code maxLocals ret, Jvm.Cond.code ({ cls := "com/example/mend_lapses/mendlapses/engine/BodyFormatOfPinLaw", name := "pick", desc := "(IJI)B" } : Jvm.MethodName) method_3_code (5 : Nat) (Option.some Jvm.ClassFile.FieldType.byte), Jvm.Cond.code ({ cls := "com/example/mend_lapses/mendlapses/engine/BodyFormat", name := "of", desc := "([B)Lcom/example/mend_lapses/mendlapses/engine/BodyFormat;" } : Jvm.MethodName) prog_1_method_4_code (5 : Nat) (Option.some (Jvm.ClassFile.FieldType.object "com/example/mend_lapses/mendlapses/engine/BodyFormat")), Jvm.Cond.code ({ cls := "com/example/mend_lapses/mendlapses/engine/BodyFormatOfPinLaw", name := "fold", desc := "(ZBIII)Z" } : Jvm.MethodName) method_5_code (5 : Nat) (Option.some Jvm.ClassFile.FieldType.boolean), Jvm.Cond.code ({ cls := "java/util/Arrays", name := "equals", desc := "([BII[BII)Z" } : Jvm.MethodName) jdk_65_method_90_code (8 : Nat) (Option.some Jvm.ClassFile.FieldType.boolean), Jvm.Cond.code ({ cls := "java/util/Arrays", name := "rangeCheck", desc := "(III)V" } : Jvm.MethodName) jdk_65_method_30_code (3 : Nat) (Option.none : Option Jvm.ClassFile.FieldType), Jvm.Cond.code ({ cls := "jdk/internal/util/ArraysSupport", name := "mismatch", desc := "([BI[BII)I" } : Jvm.MethodName) jdk_48_method_14_code (8 : Nat) (Option.some Jvm.ClassFile.FieldType.int), Jvm.Cond.code ({ cls := "com/example/mend_lapses/mendlapses/engine/BodyFormatOfPinLaw", name := "ws", desc := "(B)Z" } : Jvm.MethodName) method_4_code (1 : Nat) (Option.some Jvm.ClassFile.FieldType.boolean)]
set_option maxRecDepth 65536 in
theorem codes_eq : words1.filter isCode = codes1 := rfl
theorem w_codes : ∀ c ∈ words1.filter isCode, c.before args0 about1 = true := by
  rw [codes_eq]
  intro c hc
  simp only [codes1, List.mem_cons, List.not_mem_nil, or_false] at hc
  rcases hc with rfl | rfl | rfl | rfl | rfl | rfl | rfl | rfl
  · exact w_c0
  · exact w_c1
  · exact w_c2
  · exact w_c3
  · exact w_c4
  · exact w_c5
  · exact w_c6
  · exact w_c7
set_option maxRecDepth 65536 in
theorem w_t1 : (words1.take 24).all (fun c => isCode c || c.before args0 about1) = true := by decide +kernel
set_option maxRecDepth 65536 in
theorem w_t2 : (words1.drop 24).all (fun c => isCode c || c.before args0 about1) = true := by decide +kernel
theorem w_tables : (allAtoms (Jvm.Cond.code x code maxLocals ret :: tables_1)).before args0 about1 = true := by
  rw [allAtoms_all]
  show words1.all (fun c => c.before args0 about1) = true
  refine all_split ?_ w_codes
  rw [← List.take_append_drop 24 words1, List.all_append, w_t1, w_t2]
  rfl
set_option maxRecDepth 65536 in
theorem w_case : (Jvm.Cond.and given_1 narrow_1).before args0 about1 = true := by decide +kernel
theorem w_applies : (headSpec (Jvm.Cond.code x code maxLocals ret :: tables_1) room_1).applies x e0.platform about1 = true :=
  (Spec.applies_iff w_frames).mpr ⟨w_running, w_runnable, w_alone, w_named, w_hears, w_ripe, w_room, w_tables⟩
theorem atStart : AtStart classFile x code maxLocals ret World_1 tables_1 room_1 Calls_1 rest_1 Pre_1 launch0 p0 e0 about1 theMethod args0 below0 :=
  ⟨lists_1, trivial, launch0.admits_env _ _ _, launch0.least_env, fairChoices_fair.cas, fairChoices_fair.clock, w_frames, w_args, w_heap, w_applies, trivial, trivial, w_case⟩
end start1
theorem witness_1 : WitnessClaimed_1 := ⟨start1.p0, start1.e0, start1.about1, start1.theMethod, start1.args0, start1.below0, start1.atStart⟩
end Jvm.Pilot.@@N@@
