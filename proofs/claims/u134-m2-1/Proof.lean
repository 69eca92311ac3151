import JvmDerived
import JvmDerived.Pilot.@@N@@Statement
import JvmDerived.Pilot.@@N@@Code
set_option linter.unusedVariables false
set_option linter.unusedSimpArgs false
namespace Jvm.Pilot.@@N@@
open Jvm Jvm.ClassFile Sem Op Lib Jvm.Free Jvm.Stand Jvm.LawKit Jvm.RoadKit Bundle Jvm.Pilot.@@N@@.Jvm.D
section OwnKit
variable {p : Program} {l : Launch} {e : Env} {R : Room} {s : State} {m : MethodId} {args : Array Value} {below : List Frame} {meth : Method} {c : Code} {T : State} {locs : List Loc} {cells slots : Nat} {Z : State} {a0 : Array Value} {h : Heap} {W : State → Prop} {pc q : Nat} {Ls : Array Slot} {St : List Value}
/-- the run comes from S to an end of which W holds -/
def Go (p : Program) (e : Env) (below : List Frame) (W : State → Prop) (S : State) : Prop := ∃ U, Steps p.tables e below S U ∧ W U
theorem Go.on {S S' : State} (k : ∀ t, Steps p.tables e below S' t → Steps p.tables e below S t) (h : Go p e below W S') : Go p e below W S := by
  obtain ⟨U, h1, h2⟩ := h; exact ⟨U, k U h1, h2⟩
/-- what a body must leave -/
def Wd (s : State) (below : List Frame) (Q : Option Value → Heap → List Loc → Prop) (k n : Nat) (U : State) : Prop := U.status = .running ∧ ∃ v, Ended U below (.returned v) ∧ ∃ L, Q v U.heap L ∧ FrameEnd s (.returned v) U L k n
/-- a body's contract: from the heap h0 and the arguments as' it returns as Q says -/
def Con (l : Launch) (Z : State) (h0 : Heap) (y : MethodName) (bytes : ByteArray) (ml : Nat) (ret : Option FieldType) (rm : Room) (as' : Array Value) (Q : Option Value → Heap → List Loc → Prop) : Prop :=
  ∀ ws : List Jvm.Cond, MetFree l y (head1 (Jvm.Cond.code y bytes ml ret :: ws) rm) (fun a U => a = as' ∧ Z.Warmed39 U.vm ∧ U.heap = h0) (fun _ _ _ _ _ => True) (fun _ U o U' => ∃ v L, o = .returned v ∧ Q v U'.heap L ∧ FrameEnd U o U' L rm.cells rm.slots)
/-- it returns V and touches nothing -/
def Pur (V : Option Value) (h0 : Heap) (v : Option Value) (h : Heap) (L : List Loc) : Prop := v = V ∧ L = [] ∧ h = h0
theorem con_of {h0 : Heap} {y : MethodName} {bytes : ByteArray} {ml : Nat} {ret : Option FieldType} {rm : Room} {as' : Array Value} {Q : Option Value → Heap → List Loc → Prop} (hpl : plainFor y = true) {Ls : Array Slot}
    (hef : ∀ m : MethodId, entryFrame m as' ml = mkF m 0 Ls [])
    (body : ∀ (p : Program) (e : Env) (s : State) (m : MethodId) (below : List Frame) (meth : Method) (c : Code) (s₁ : State), p.tables.exec = Jvm.exec → Z.Warmed39 s.vm → c.code = bytes → c.maxLocals = ml → meth.sig.returnType = ret → meth.locks = false → meth.name = y.name → s.vm.findClass y.cls = some m.cls →
      Stand p l e rm s m as' below meth c s₁ [] 0 0 → s₁.heap = h0 → Go p e below (Wd s below Q rm.cells rm.slots) (s₁.setTop (mkF m 0 Ls []))) : Con l Z h0 y bytes ml ret rm as' Q := by
  intro ws
  refine MetFree.of_bodySF hpl hisR ?_
  intro p e s m args below meth c s₁ Bd hml0 hP hK
  obtain ⟨rfl, hZ, hh⟩ := hP
  obtain ⟨U, h1, h2, v, h3, L, h4, h5⟩ := body p e s m below meth c s₁ Bd.exec hZ Bd.bytes hml0 Bd.returns Bd.notSynchronized (name_of_methodNamed Bd.named Bd.method).1 (findClass_of_methodNamed Bd.named) (Stand.of_body Bd) (by rw [← hh, Bd.state]; rfl)
  rw [← hef] at h1
  exact ⟨U, _, h1, h2, h3, v, L, rfl, h4, h5⟩
theorem g_leave (X : Stand p l e R s m args below meth c T locs cells slots) {v : Option Value} (hv : meth.sig.returnType = none → v = none) (hlk : meth.locks = false) {S : State} {Q : Option Value → Heap → List Loc → Prop} {k n : Nat}
    (st : ∀ fs, (∀ (f : JFrame) (acts : List Action), f.method = m → f.locked = none → f.entered = [] → (doReturn e (T.setTop f) acts v).1 = T.setFrames fs) → Steps p.tables e below S (T.setFrames fs))
    (hQ : Q v T.heap locs) (hk : cells ≤ k) (hn : slots ≤ n) : Go p e below (Wd s below Q k n) S := by
  obtain ⟨fs, hr, hrun, hended, hW, hsame⟩ := X.leave (v := v) hv hlk
  exact ⟨_, st fs hr, hrun, v, hended, locs, hQ, ⟨_, rfl⟩, hW, hsame.mono hk hn⟩
section Leaves
variable {Q : Option Value → Heap → List Loc → Prop} {k n : Nat}
theorem g_retZ (X : Stand p l e R s m args below meth c T locs cells slots) (hx : p.tables.exec = Jvm.exec) {t : FieldType} {z : Int32} (hret : meth.sig.returnType = some t) (hlk : meth.locks = false) (hd : decode c.code pc = .ok (.ireturn, 1)) (ht : t = .int ∨ t = .boolean ∨ t = .byte ∨ t = .char ∨ t = .short) (hn' : narrow t (.int z) = .int z)
    (hQ : Q (some (.int z)) T.heap locs) (hk : cells ≤ k) (hn : slots ≤ n) : Go p e below (Wd s below Q k n) (T.setTop (mkF m pc Ls (.int z :: St))) :=
  g_leave X (fun h => by rw [hret] at h; cases h) hlk (fun fs hr => retOut X hx hret hn' (Or.inl ⟨rfl, ht, z, rfl⟩) hd hr) hQ hk hn
theorem g_retI (X : Stand p l e R s m args below meth c T locs cells slots) (hx : p.tables.exec = Jvm.exec) {z : Int32} (hret : meth.sig.returnType = some .int) (hlk : meth.locks = false) (hd : decode c.code pc = .ok (.ireturn, 1))
    (hQ : Q (some (.int z)) T.heap locs) (hk : cells ≤ k) (hn : slots ≤ n) : Go p e below (Wd s below Q k n) (T.setTop (mkF m pc Ls (.int z :: St))) :=
  g_retZ X hx hret hlk hd (Or.inl rfl) rfl hQ hk hn
theorem g_retB (X : Stand p l e R s m args below meth c T locs cells slots) (hx : p.tables.exec = Jvm.exec) {z : Int32} (hret : meth.sig.returnType = some .boolean) (hlk : meth.locks = false) (hd : decode c.code pc = .ok (.ireturn, 1)) (hz : z = 0 ∨ z = 1)
    (hQ : Q (some (.int z)) T.heap locs) (hk : cells ≤ k) (hn : slots ≤ n) : Go p e below (Wd s below Q k n) (T.setTop (mkF m pc Ls (.int z :: St))) :=
  g_retZ X hx hret hlk hd (Or.inr (Or.inl rfl)) (by rcases hz with rfl | rfl <;> rfl) hQ hk hn
theorem g_retJ (X : Stand p l e R s m args below meth c T locs cells slots) (hx : p.tables.exec = Jvm.exec) {z : Int64} (hret : meth.sig.returnType = some .long) (hlk : meth.locks = false) (hd : decode c.code pc = .ok (.lreturn, 1))
    (hQ : Q (some (.long z)) T.heap locs) (hk : cells ≤ k) (hn : slots ≤ n) : Go p e below (Wd s below Q k n) (T.setTop (mkF m pc Ls (.long z :: St))) :=
  g_leave X (fun h => by rw [hret] at h; cases h) hlk (fun fs hr => retOut X hx hret rfl (Or.inr (Or.inl ⟨rfl, rfl, z, rfl⟩)) hd hr) hQ hk hn
theorem g_retA (X : Stand p l e R s m args below meth c T locs cells slots) (hx : p.tables.exec = Jvm.exec) {t : FieldType} {w : Value} (hret : meth.sig.returnType = some t) (hlk : meth.locks = false) (hd : decode c.code pc = .ok (.areturn, 1)) (ht : t.isReference = true) (hw : w.isRef = true) (hn' : narrow t w = w)
    (hQ : Q (some w) T.heap locs) (hk : cells ≤ k) (hn : slots ≤ n) : Go p e below (Wd s below Q k n) (T.setTop (mkF m pc Ls (w :: St))) :=
  g_leave X (fun h => by rw [hret] at h; cases h) hlk (fun fs hr => retOut X hx hret hn' (Or.inr (Or.inr (Or.inr (Or.inr ⟨rfl, ht, hw⟩)))) hd hr) hQ hk hn
theorem g_retV (X : Stand p l e R s m args below meth c T locs cells slots) (hx : p.tables.exec = Jvm.exec) (hret : meth.sig.returnType = none) (hlk : meth.locks = false) (hd : decode c.code pc = .ok (.return_, 1))
    (hQ : Q none T.heap locs) (hk : cells ≤ k) (hn : slots ≤ n) : Go p e below (Wd s below Q k n) (T.setTop (mkF m pc Ls [])) :=
  g_leave X (fun _ => rfl) hlk (fun fs hr => X.returnOut hx hret hd hr) hQ hk hn
end Leaves
section Plain
theorem g_iload (X : Stand p l e R s m args below meth c T locs cells slots) (hx : p.tables.exec = Jvm.exec) {k : Nat} {v : Int32} (hd : decode c.code pc = .ok (.iload k, 2)) (hl : Ls[k]? = some (.val (.int v))) (hq : pc + 2 = q) (G : Go p e below W (T.setTop (mkF m q Ls (.int v :: St)))) : Go p e below W (T.setTop (mkF m pc Ls St)) := by
  subst hq; exact G.on fun t k' => XS.iload X.here hx rfl hd hl k'
theorem g_lload (X : Stand p l e R s m args below meth c T locs cells slots) (hx : p.tables.exec = Jvm.exec) {k : Nat} {v : Int64} (hd : decode c.code pc = .ok (.lload k, 2)) (hl : Ls[k]? = some (.val (.long v))) (hq : pc + 2 = q) (G : Go p e below W (T.setTop (mkF m q Ls (.long v :: St)))) : Go p e below W (T.setTop (mkF m pc Ls St)) := by
  subst hq; exact G.on fun t k' => XS.lload X.here hx rfl hd hl k'
theorem g_aload (X : Stand p l e R s m args below meth c T locs cells slots) (hx : p.tables.exec = Jvm.exec) {k : Nat} {v : Value} (hd : decode c.code pc = .ok (.aload k, 2)) (hl : Ls[k]? = some (.val v)) (hv : v.isRef = true) (hq : pc + 2 = q) (G : Go p e below W (T.setTop (mkF m q Ls (v :: St)))) : Go p e below W (T.setTop (mkF m pc Ls St)) := by
  subst hq; exact G.on fun t k' => XS.aload X.here hx rfl hd hl hv k'
theorem g_istore (X : Stand p l e R s m args below meth c T locs cells slots) (hx : p.tables.exec = Jvm.exec) {k : Nat} {x : Int32} {L' : Array Slot} (hd : decode c.code pc = .ok (.istore k, 2)) (hl : storeLocals Ls k (.int x) = some L') (hq : pc + 2 = q) (G : Go p e below W (T.setTop (mkF m q L' St))) : Go p e below W (T.setTop (mkF m pc Ls (.int x :: St))) := by
  subst hq; exact G.on fun t k' => XS.istore X.here hx rfl hd rfl hl k'
theorem g_lstore (X : Stand p l e R s m args below meth c T locs cells slots) (hx : p.tables.exec = Jvm.exec) {k : Nat} {x : Int64} {L' : Array Slot} (hd : decode c.code pc = .ok (.lstore k, 2)) (hl : storeLocals Ls k (.long x) = some L') (hq : pc + 2 = q) (G : Go p e below W (T.setTop (mkF m q L' St))) : Go p e below W (T.setTop (mkF m pc Ls (.long x :: St))) := by
  subst hq; exact G.on fun t k' => XS.lstore X.here hx rfl hd rfl hl k'
theorem g_astore (X : Stand p l e R s m args below meth c T locs cells slots) (hx : p.tables.exec = Jvm.exec) {k : Nat} {x : Value} {L' : Array Slot} (hd : decode c.code pc = .ok (.astore k, 2)) (hv : x.isRef = true) (hl : storeLocals Ls k x = some L') (hq : pc + 2 = q) (G : Go p e below W (T.setTop (mkF m q L' St))) : Go p e below W (T.setTop (mkF m pc Ls (x :: St))) := by
  subst hq; exact G.on fun t k' => XS.astore X.here hx rfl hd rfl hv hl k'
theorem g_iloadN (X : Stand p l e R s m args below meth c T locs cells slots) (hx : p.tables.exec = Jvm.exec) {k : Fin 4} {v : Int32} (hd : decode c.code pc = .ok (.iload_n k, 1)) (hl : Ls[k.val]? = some (.val (.int v))) (hq : pc + 1 = q) (G : Go p e below W (T.setTop (mkF m q Ls (.int v :: St)))) : Go p e below W (T.setTop (mkF m pc Ls St)) := by
  subst hq; exact G.on fun t k' => XS.iloadN X.here hx rfl hd hl k'
theorem g_lloadN (X : Stand p l e R s m args below meth c T locs cells slots) (hx : p.tables.exec = Jvm.exec) {k : Fin 4} {v : Int64} (hd : decode c.code pc = .ok (.lload_n k, 1)) (hl : Ls[k.val]? = some (.val (.long v))) (hq : pc + 1 = q) (G : Go p e below W (T.setTop (mkF m q Ls (.long v :: St)))) : Go p e below W (T.setTop (mkF m pc Ls St)) := by
  subst hq; exact G.on fun t k' => XS.lloadN X.here hx rfl hd hl k'
theorem g_aloadN (X : Stand p l e R s m args below meth c T locs cells slots) (hx : p.tables.exec = Jvm.exec) {k : Fin 4} {v : Value} (hd : decode c.code pc = .ok (.aload_n k, 1)) (hl : Ls[k.val]? = some (.val v)) (hv : v.isRef = true) (hq : pc + 1 = q) (G : Go p e below W (T.setTop (mkF m q Ls (v :: St)))) : Go p e below W (T.setTop (mkF m pc Ls St)) := by
  subst hq; exact G.on fun t k' => XS.aloadN X.here hx rfl hd hl hv k'
theorem g_istoreN (X : Stand p l e R s m args below meth c T locs cells slots) (hx : p.tables.exec = Jvm.exec) {k : Fin 4} {x : Int32} {L' : Array Slot} (hd : decode c.code pc = .ok (.istore_n k, 1)) (hl : storeLocals Ls k.val (.int x) = some L') (hq : pc + 1 = q) (G : Go p e below W (T.setTop (mkF m q L' St))) : Go p e below W (T.setTop (mkF m pc Ls (.int x :: St))) := by
  subst hq; exact G.on fun t k' => XS.istoreN X.here hx rfl hd rfl hl k'
theorem g_lstoreN (X : Stand p l e R s m args below meth c T locs cells slots) (hx : p.tables.exec = Jvm.exec) {k : Fin 4} {x : Int64} {L' : Array Slot} (hd : decode c.code pc = .ok (.lstore_n k, 1)) (hl : storeLocals Ls k.val (.long x) = some L') (hq : pc + 1 = q) (G : Go p e below W (T.setTop (mkF m q L' St))) : Go p e below W (T.setTop (mkF m pc Ls (.long x :: St))) := by
  subst hq; exact G.on fun t k' => XS.lstoreN X.here hx rfl hd rfl hl k'
theorem g_astoreN (X : Stand p l e R s m args below meth c T locs cells slots) (hx : p.tables.exec = Jvm.exec) {k : Fin 4} {x : Value} {L' : Array Slot} (hd : decode c.code pc = .ok (.astore_n k, 1)) (hv : x.isRef = true) (hl : storeLocals Ls k.val x = some L') (hq : pc + 1 = q) (G : Go p e below W (T.setTop (mkF m q L' St))) : Go p e below W (T.setTop (mkF m pc Ls (x :: St))) := by
  subst hq; exact G.on fun t k' => XS.astoreN X.here hx rfl hd rfl hv hl k'
theorem g_iconst (X : Stand p l e R s m args below meth c T locs cells slots) (hx : p.tables.exec = Jvm.exec) {i : Int} {n : Int32} (hd : decode c.code pc = .ok (.iconst i, 1)) (hn : Int32.ofInt i = n) (hq : pc + 1 = q) (G : Go p e below W (T.setTop (mkF m q Ls (.int n :: St)))) : Go p e below W (T.setTop (mkF m pc Ls St)) := by
  subst hq; subst hn; exact G.on fun t k' => XS.iconst X.here hx rfl hd k'
theorem g_bipush (X : Stand p l e R s m args below meth c T locs cells slots) (hx : p.tables.exec = Jvm.exec) {i : Int} {n : Int32} (hd : decode c.code pc = .ok (.bipush i, 2)) (hn : (Int8.ofInt i).toInt32 = n) (hq : pc + 2 = q) (G : Go p e below W (T.setTop (mkF m q Ls (.int n :: St)))) : Go p e below W (T.setTop (mkF m pc Ls St)) := by
  subst hq; subst hn; exact G.on fun t k' => XS.bipush X.here hx rfl hd k'
theorem g_sipush (X : Stand p l e R s m args below meth c T locs cells slots) (hx : p.tables.exec = Jvm.exec) {i : Int} {n : Int32} (hd : decode c.code pc = .ok (.sipush i, 3)) (hn : (Int16.ofInt i).toInt32 = n) (hq : pc + 3 = q) (G : Go p e below W (T.setTop (mkF m q Ls (.int n :: St)))) : Go p e below W (T.setTop (mkF m pc Ls St)) := by
  subst hq; subst hn; exact G.on fun t k' => XS.sipush X.here hx rfl hd k'
theorem g_lconst (X : Stand p l e R s m args below meth c T locs cells slots) (hx : p.tables.exec = Jvm.exec) {i : Fin 2} {n : Int64} (hd : decode c.code pc = .ok (.lconst i, 1)) (hn : Int64.ofNat i = n) (hq : pc + 1 = q) (G : Go p e below W (T.setTop (mkF m q Ls (.long n :: St)))) : Go p e below W (T.setTop (mkF m pc Ls St)) := by
  subst hq; subst hn; exact G.on fun t k' => XS.lconst X.here hx rfl hd k'
theorem g_aconst_null (X : Stand p l e R s m args below meth c T locs cells slots) (hx : p.tables.exec = Jvm.exec)  (hd : decode c.code pc = .ok (.aconst_null, 1)) (hq : pc + 1 = q) (G : Go p e below W (T.setTop (mkF m q Ls (.null :: St)))) : Go p e below W (T.setTop (mkF m pc Ls St)) := by
  subst hq; exact G.on fun t k' => XS.aconstNull X.here hx rfl hd k'
theorem g_iadd (X : Stand p l e R s m args below meth c T locs cells slots) (hx : p.tables.exec = Jvm.exec) {x y z : Int32} (hd : decode c.code pc = .ok (.iadd, 1)) (hz : x + y = z) (hq : pc + 1 = q) (G : Go p e below W (T.setTop (mkF m q Ls (.int z :: St)))) : Go p e below W (T.setTop (mkF m pc Ls (.int y :: .int x :: St))) := by
  subst hq; subst hz; exact G.on fun t k' => XS.iadd X.here hx rfl hd rfl k'
theorem g_isub (X : Stand p l e R s m args below meth c T locs cells slots) (hx : p.tables.exec = Jvm.exec) {x y z : Int32} (hd : decode c.code pc = .ok (.isub, 1)) (hz : x - y = z) (hq : pc + 1 = q) (G : Go p e below W (T.setTop (mkF m q Ls (.int z :: St)))) : Go p e below W (T.setTop (mkF m pc Ls (.int y :: .int x :: St))) := by
  subst hq; subst hz; exact G.on fun t k' => XS.isub X.here hx rfl hd rfl k'
theorem g_imul (X : Stand p l e R s m args below meth c T locs cells slots) (hx : p.tables.exec = Jvm.exec) {x y z : Int32} (hd : decode c.code pc = .ok (.imul, 1)) (hz : x * y = z) (hq : pc + 1 = q) (G : Go p e below W (T.setTop (mkF m q Ls (.int z :: St)))) : Go p e below W (T.setTop (mkF m pc Ls (.int y :: .int x :: St))) := by
  subst hq; subst hz; exact G.on fun t k' => XS.imul X.here hx rfl hd rfl k'
theorem g_iand (X : Stand p l e R s m args below meth c T locs cells slots) (hx : p.tables.exec = Jvm.exec) {x y z : Int32} (hd : decode c.code pc = .ok (.iand, 1)) (hz : x &&& y = z) (hq : pc + 1 = q) (G : Go p e below W (T.setTop (mkF m q Ls (.int z :: St)))) : Go p e below W (T.setTop (mkF m pc Ls (.int y :: .int x :: St))) := by
  subst hq; subst hz; exact G.on fun t k' => XS.iand X.here hx rfl hd rfl k'
theorem g_ior (X : Stand p l e R s m args below meth c T locs cells slots) (hx : p.tables.exec = Jvm.exec) {x y z : Int32} (hd : decode c.code pc = .ok (.ior, 1)) (hz : x ||| y = z) (hq : pc + 1 = q) (G : Go p e below W (T.setTop (mkF m q Ls (.int z :: St)))) : Go p e below W (T.setTop (mkF m pc Ls (.int y :: .int x :: St))) := by
  subst hq; subst hz; exact G.on fun t k' => XS.ior X.here hx rfl hd rfl k'
theorem g_ixor (X : Stand p l e R s m args below meth c T locs cells slots) (hx : p.tables.exec = Jvm.exec) {x y z : Int32} (hd : decode c.code pc = .ok (.ixor, 1)) (hz : x ^^^ y = z) (hq : pc + 1 = q) (G : Go p e below W (T.setTop (mkF m q Ls (.int z :: St)))) : Go p e below W (T.setTop (mkF m pc Ls (.int y :: .int x :: St))) := by
  subst hq; subst hz; exact G.on fun t k' => XS.ixor X.here hx rfl hd rfl k'
theorem g_ishl (X : Stand p l e R s m args below meth c T locs cells slots) (hx : p.tables.exec = Jvm.exec) {x y z : Int32} (hd : decode c.code pc = .ok (.ishl, 1)) (hz : x <<< (y &&& 31) = z) (hq : pc + 1 = q) (G : Go p e below W (T.setTop (mkF m q Ls (.int z :: St)))) : Go p e below W (T.setTop (mkF m pc Ls (.int y :: .int x :: St))) := by
  subst hq; subst hz; exact G.on fun t k' => XS.ishl X.here hx rfl hd rfl k'
theorem g_ishr (X : Stand p l e R s m args below meth c T locs cells slots) (hx : p.tables.exec = Jvm.exec) {x y z : Int32} (hd : decode c.code pc = .ok (.ishr, 1)) (hz : x >>> (y &&& 31) = z) (hq : pc + 1 = q) (G : Go p e below W (T.setTop (mkF m q Ls (.int z :: St)))) : Go p e below W (T.setTop (mkF m pc Ls (.int y :: .int x :: St))) := by
  subst hq; subst hz; exact G.on fun t k' => XS.ishr X.here hx rfl hd rfl k'
theorem g_iushr (X : Stand p l e R s m args below meth c T locs cells slots) (hx : p.tables.exec = Jvm.exec) {x y z : Int32} (hd : decode c.code pc = .ok (.iushr, 1)) (hz : (x.toUInt32 >>> (y &&& 31).toUInt32).toInt32 = z) (hq : pc + 1 = q) (G : Go p e below W (T.setTop (mkF m q Ls (.int z :: St)))) : Go p e below W (T.setTop (mkF m pc Ls (.int y :: .int x :: St))) := by
  subst hq; subst hz; exact G.on fun t k' => XS.iushr X.here hx rfl hd rfl k'
theorem g_irem (X : Stand p l e R s m args below meth c T locs cells slots) (hx : p.tables.exec = Jvm.exec) {x y z : Int32} (hd : decode c.code pc = .ok (.irem, 1)) (hy : y ≠ 0) (hz : x % y = z) (hq : pc + 1 = q) (G : Go p e below W (T.setTop (mkF m q Ls (.int z :: St)))) : Go p e below W (T.setTop (mkF m pc Ls (.int y :: .int x :: St))) := by
  subst hq; subst hz; exact G.on fun t k' => iremM X hx rfl hd rfl hy k'
theorem g_ladd (X : Stand p l e R s m args below meth c T locs cells slots) (hx : p.tables.exec = Jvm.exec) {x y z : Int64} (hd : decode c.code pc = .ok (.ladd, 1)) (hz : x + y = z) (hq : pc + 1 = q) (G : Go p e below W (T.setTop (mkF m q Ls (.long z :: St)))) : Go p e below W (T.setTop (mkF m pc Ls (.long y :: .long x :: St))) := by
  subst hq; subst hz; exact G.on fun t k' => XS.ladd X.here hx rfl hd rfl k'
theorem g_lsub (X : Stand p l e R s m args below meth c T locs cells slots) (hx : p.tables.exec = Jvm.exec) {x y z : Int64} (hd : decode c.code pc = .ok (.lsub, 1)) (hz : x - y = z) (hq : pc + 1 = q) (G : Go p e below W (T.setTop (mkF m q Ls (.long z :: St)))) : Go p e below W (T.setTop (mkF m pc Ls (.long y :: .long x :: St))) := by
  subst hq; subst hz; exact G.on fun t k' => XS.lsub X.here hx rfl hd rfl k'
theorem g_land (X : Stand p l e R s m args below meth c T locs cells slots) (hx : p.tables.exec = Jvm.exec) {x y z : Int64} (hd : decode c.code pc = .ok (.land, 1)) (hz : x &&& y = z) (hq : pc + 1 = q) (G : Go p e below W (T.setTop (mkF m q Ls (.long z :: St)))) : Go p e below W (T.setTop (mkF m pc Ls (.long y :: .long x :: St))) := by
  subst hq; subst hz; exact G.on fun t k' => XS.land X.here hx rfl hd rfl k'
theorem g_lor (X : Stand p l e R s m args below meth c T locs cells slots) (hx : p.tables.exec = Jvm.exec) {x y z : Int64} (hd : decode c.code pc = .ok (.lor, 1)) (hz : x ||| y = z) (hq : pc + 1 = q) (G : Go p e below W (T.setTop (mkF m q Ls (.long z :: St)))) : Go p e below W (T.setTop (mkF m pc Ls (.long y :: .long x :: St))) := by
  subst hq; subst hz; exact G.on fun t k' => XS.lor X.here hx rfl hd rfl k'
theorem g_lxor (X : Stand p l e R s m args below meth c T locs cells slots) (hx : p.tables.exec = Jvm.exec) {x y z : Int64} (hd : decode c.code pc = .ok (.lxor, 1)) (hz : x ^^^ y = z) (hq : pc + 1 = q) (G : Go p e below W (T.setTop (mkF m q Ls (.long z :: St)))) : Go p e below W (T.setTop (mkF m pc Ls (.long y :: .long x :: St))) := by
  subst hq; subst hz; exact G.on fun t k' => XS.lxor X.here hx rfl hd rfl k'
theorem g_lshl (X : Stand p l e R s m args below meth c T locs cells slots) (hx : p.tables.exec = Jvm.exec) {x z : Int64} {y : Int32} (hd : decode c.code pc = .ok (.lshl, 1)) (hz : x <<< (y &&& 0x3f).toInt64 = z) (hq : pc + 1 = q) (G : Go p e below W (T.setTop (mkF m q Ls (.long z :: St)))) : Go p e below W (T.setTop (mkF m pc Ls (.int y :: .long x :: St))) := by
  subst hq; subst hz; exact G.on fun t k' => XS.lshl X.here hx rfl hd rfl k'
theorem g_lshr (X : Stand p l e R s m args below meth c T locs cells slots) (hx : p.tables.exec = Jvm.exec) {x z : Int64} {y : Int32} (hd : decode c.code pc = .ok (.lshr, 1)) (hz : x >>> (y &&& 0x3f).toInt64 = z) (hq : pc + 1 = q) (G : Go p e below W (T.setTop (mkF m q Ls (.long z :: St)))) : Go p e below W (T.setTop (mkF m pc Ls (.int y :: .long x :: St))) := by
  subst hq; subst hz; exact G.on fun t k' => XS.lshr X.here hx rfl hd rfl k'
theorem g_lushr (X : Stand p l e R s m args below meth c T locs cells slots) (hx : p.tables.exec = Jvm.exec) {x z : Int64} {y : Int32} (hd : decode c.code pc = .ok (.lushr, 1)) (hz : (x.toUInt64 >>> (y &&& 0x3f).toInt64.toUInt64).toInt64 = z) (hq : pc + 1 = q) (G : Go p e below W (T.setTop (mkF m q Ls (.long z :: St)))) : Go p e below W (T.setTop (mkF m pc Ls (.int y :: .long x :: St))) := by
  subst hq; subst hz; exact G.on fun t k' => XS.lushr X.here hx rfl hd rfl k'
theorem g_lcmp (X : Stand p l e R s m args below meth c T locs cells slots) (hx : p.tables.exec = Jvm.exec) {x y : Int64} {z : Int32} (hd : decode c.code pc = .ok (.lcmp, 1)) (hz : lcmpW x y = z) (hq : pc + 1 = q) (G : Go p e below W (T.setTop (mkF m q Ls (.int z :: St)))) : Go p e below W (T.setTop (mkF m pc Ls (.long y :: .long x :: St))) := by
  subst hq; subst hz; exact G.on fun t k' => XS.lcmp X.here hx rfl hd rfl k'
theorem g_i2l (X : Stand p l e R s m args below meth c T locs cells slots) (hx : p.tables.exec = Jvm.exec) {x : Int32} {z : Int64} (hd : decode c.code pc = .ok (.i2l, 1)) (hz : x.toInt64 = z) (hq : pc + 1 = q) (G : Go p e below W (T.setTop (mkF m q Ls (.long z :: St)))) : Go p e below W (T.setTop (mkF m pc Ls (.int x :: St))) := by
  subst hq; subst hz; exact G.on fun t k' => XS.i2l X.here hx rfl hd rfl k'
theorem g_l2i (X : Stand p l e R s m args below meth c T locs cells slots) (hx : p.tables.exec = Jvm.exec) {x : Int64} {z : Int32} (hd : decode c.code pc = .ok (.l2i, 1)) (hz : x.toInt32 = z) (hq : pc + 1 = q) (G : Go p e below W (T.setTop (mkF m q Ls (.int z :: St)))) : Go p e below W (T.setTop (mkF m pc Ls (.long x :: St))) := by
  subst hq; subst hz; exact G.on fun t k' => XS.l2i X.here hx rfl hd rfl k'
theorem g_i2b (X : Stand p l e R s m args below meth c T locs cells slots) (hx : p.tables.exec = Jvm.exec) {x : Int32} {z : Int32} (hd : decode c.code pc = .ok (.i2b, 1)) (hz : x.toInt8.toInt32 = z) (hq : pc + 1 = q) (G : Go p e below W (T.setTop (mkF m q Ls (.int z :: St)))) : Go p e below W (T.setTop (mkF m pc Ls (.int x :: St))) := by
  subst hq; subst hz; exact G.on fun t k' => XS.i2b X.here hx rfl hd rfl k'
theorem g_i2c (X : Stand p l e R s m args below meth c T locs cells slots) (hx : p.tables.exec = Jvm.exec) {x : Int32} {z : Int32} (hd : decode c.code pc = .ok (.i2c, 1)) (hz : x.toUInt32.toUInt16.toUInt32.toInt32 = z) (hq : pc + 1 = q) (G : Go p e below W (T.setTop (mkF m q Ls (.int z :: St)))) : Go p e below W (T.setTop (mkF m pc Ls (.int x :: St))) := by
  subst hq; subst hz; exact G.on fun t k' => XS.i2c X.here hx rfl hd rfl k'
theorem g_ineg (X : Stand p l e R s m args below meth c T locs cells slots) (hx : p.tables.exec = Jvm.exec) {x : Int32} {z : Int32} (hd : decode c.code pc = .ok (.ineg, 1)) (hz : -x = z) (hq : pc + 1 = q) (G : Go p e below W (T.setTop (mkF m q Ls (.int z :: St)))) : Go p e below W (T.setTop (mkF m pc Ls (.int x :: St))) := by
  subst hq; subst hz; exact G.on fun t k' => XS.ineg X.here hx rfl hd rfl k'
theorem g_dup (X : Stand p l e R s m args below meth c T locs cells slots) (hx : p.tables.exec = Jvm.exec) {x : Value} (hd : decode c.code pc = .ok (.dup, 1)) (hc : x.category = 1) (hq : pc + 1 = q) (G : Go p e below W (T.setTop (mkF m q Ls (x :: x :: St)))) : Go p e below W (T.setTop (mkF m pc Ls (x :: St))) := by
  subst hq; exact G.on fun t k' => XS.dup X.here hx rfl hd rfl hc k'
theorem g_pop (X : Stand p l e R s m args below meth c T locs cells slots) (hx : p.tables.exec = Jvm.exec) {x : Value} (hd : decode c.code pc = .ok (.pop, 1)) (hc : x.category = 1) (hq : pc + 1 = q) (G : Go p e below W (T.setTop (mkF m q Ls St))) : Go p e below W (T.setTop (mkF m pc Ls (x :: St))) := by
  subst hq; exact G.on fun t k' => XS.pop X.here hx rfl hd rfl hc k'
theorem g_dup_x1 (X : Stand p l e R s m args below meth c T locs cells slots) (hx : p.tables.exec = Jvm.exec) {x y : Value} (hd : decode c.code pc = .ok (.dup_x1, 1)) (hc : x.category = 1) (hc2 : y.category = 1) (hq : pc + 1 = q) (G : Go p e below W (T.setTop (mkF m q Ls (x :: y :: x :: St)))) : Go p e below W (T.setTop (mkF m pc Ls (x :: y :: St))) := by
  subst hq; exact G.on fun t k' => XS.dupX1 X.here hx rfl hd rfl hc hc2 k'
theorem g_iinc (X : Stand p l e R s m args below meth c T locs cells slots) (hx : p.tables.exec = Jvm.exec) {k : Nat} {cst : Int} {x z : Int32} {L' : Array Slot} (hd : decode c.code pc = .ok (.iinc k cst, 3)) (hl : Ls[k]? = some (.val (.int x))) (hz : x + Int32.ofInt cst = z) (hl' : storeLocals Ls k (.int z) = some L') (hq : pc + 3 = q) (G : Go p e below W (T.setTop (mkF m q L' St))) : Go p e below W (T.setTop (mkF m pc Ls St)) := by
  subst hq; subst hz; exact G.on fun t k' => XS.iinc X.here hx rfl hd hl hl' k'
theorem g_goto (X : Stand p l e R s m args below meth c T locs cells slots) (hx : p.tables.exec = Jvm.exec) {o : Int} (hd : decode c.code pc = .ok (.goto o, 3)) (ho : 0 ≤ (pc : Int) + o) (hq : ((pc : Int) + o).toNat = q) (G : Go p e below W (T.setTop (mkF m q Ls St))) : Go p e below W (T.setTop (mkF m pc Ls St)) :=
  G.on fun t k' => XS.goto X.here hx rfl rfl hd ho hq k'
end Plain
section Branches
variable {q2 : Nat}
theorem g_icmp (X : Stand p l e R s m args below meth c T locs cells slots) (hx : p.tables.exec = Jvm.exec) {cd : ClassFile.Cond} {x y : Int32} {o : Int} (hd : decode c.code pc = .ok (.if_icmp cd o, 3)) (ho : 0 ≤ (pc : Int) + o) (hq : ((pc : Int) + o).toNat = q) (hq2 : pc + 3 = q2)
    (Gy : if_icmp.holds cd x y = true → Go p e below W (T.setTop (mkF m q Ls St))) (Gn : if_icmp.holds cd x y = false → Go p e below W (T.setTop (mkF m q2 Ls St))) : Go p e below W (T.setTop (mkF m pc Ls (.int y :: .int x :: St))) := by
  subst hq2
  cases hc : if_icmp.holds cd x y with
  | true => exact (Gy hc).on fun t k => XS.icmpYes X.here hx rfl rfl hd rfl hc ho hq k
  | false => exact (Gn hc).on fun t k => XS.icmpNo X.here hx rfl hd rfl hc k
theorem g_if0 (X : Stand p l e R s m args below meth c T locs cells slots) (hx : p.tables.exec = Jvm.exec) {cd : ClassFile.Cond} {x : Int32} {o : Int} (hd : decode c.code pc = .ok (.ifCond cd o, 3)) (ho : 0 ≤ (pc : Int) + o) (hq : ((pc : Int) + o).toNat = q) (hq2 : pc + 3 = q2)
    (Gy : if_icmp.holds cd x 0 = true → Go p e below W (T.setTop (mkF m q Ls St))) (Gn : if_icmp.holds cd x 0 = false → Go p e below W (T.setTop (mkF m q2 Ls St))) : Go p e below W (T.setTop (mkF m pc Ls (.int x :: St))) := by
  subst hq2
  cases hc : if_icmp.holds cd x 0 with
  | true => exact (Gy hc).on fun t k => XS.ifYes X.here hx rfl rfl hd rfl ((if0 _ _).trans hc) ho hq k
  | false => exact (Gn hc).on fun t k => XS.ifNo X.here hx rfl hd rfl ((if0 _ _).trans hc) k
theorem g_icmp_eq (X : Stand p l e R s m args below meth c T locs cells slots) (hx : p.tables.exec = Jvm.exec) {x y : Int32} {o : Int} (hd : decode c.code pc = .ok (.if_icmp .eq o, 3)) (ho : 0 ≤ (pc : Int) + o) (hq : ((pc : Int) + o).toNat = q) (hq2 : pc + 3 = q2) (Gy : x = y → Go p e below W (T.setTop (mkF m q Ls St))) (Gn : ¬ x = y → Go p e below W (T.setTop (mkF m q2 Ls St))) : Go p e below W (T.setTop (mkF m pc Ls (.int y :: .int x :: St))) :=
  g_icmp X hx hd ho hq hq2 (fun h => Gy (by simpa [if_icmp.holds] using h)) (fun h => Gn (by simpa [if_icmp.holds] using h))
theorem g_if_eq (X : Stand p l e R s m args below meth c T locs cells slots) (hx : p.tables.exec = Jvm.exec) {x : Int32} {o : Int} (hd : decode c.code pc = .ok (.ifCond .eq o, 3)) (ho : 0 ≤ (pc : Int) + o) (hq : ((pc : Int) + o).toNat = q) (hq2 : pc + 3 = q2) (Gy : x = (0 : Int32) → Go p e below W (T.setTop (mkF m q Ls St))) (Gn : ¬ x = (0 : Int32) → Go p e below W (T.setTop (mkF m q2 Ls St))) : Go p e below W (T.setTop (mkF m pc Ls (.int x :: St))) :=
  g_if0 X hx hd ho hq hq2 (fun h => Gy (by simpa [if_icmp.holds] using h)) (fun h => Gn (by simpa [if_icmp.holds] using h))
theorem g_icmp_ne (X : Stand p l e R s m args below meth c T locs cells slots) (hx : p.tables.exec = Jvm.exec) {x y : Int32} {o : Int} (hd : decode c.code pc = .ok (.if_icmp .ne o, 3)) (ho : 0 ≤ (pc : Int) + o) (hq : ((pc : Int) + o).toNat = q) (hq2 : pc + 3 = q2) (Gy : ¬ x = y → Go p e below W (T.setTop (mkF m q Ls St))) (Gn : x = y → Go p e below W (T.setTop (mkF m q2 Ls St))) : Go p e below W (T.setTop (mkF m pc Ls (.int y :: .int x :: St))) :=
  g_icmp X hx hd ho hq hq2 (fun h => Gy (by simpa [if_icmp.holds] using h)) (fun h => Gn (by simpa [if_icmp.holds] using h))
theorem g_if_ne (X : Stand p l e R s m args below meth c T locs cells slots) (hx : p.tables.exec = Jvm.exec) {x : Int32} {o : Int} (hd : decode c.code pc = .ok (.ifCond .ne o, 3)) (ho : 0 ≤ (pc : Int) + o) (hq : ((pc : Int) + o).toNat = q) (hq2 : pc + 3 = q2) (Gy : ¬ x = (0 : Int32) → Go p e below W (T.setTop (mkF m q Ls St))) (Gn : x = (0 : Int32) → Go p e below W (T.setTop (mkF m q2 Ls St))) : Go p e below W (T.setTop (mkF m pc Ls (.int x :: St))) :=
  g_if0 X hx hd ho hq hq2 (fun h => Gy (by simpa [if_icmp.holds] using h)) (fun h => Gn (by simpa [if_icmp.holds] using h))
theorem g_icmp_lt (X : Stand p l e R s m args below meth c T locs cells slots) (hx : p.tables.exec = Jvm.exec) {x y : Int32} {o : Int} (hd : decode c.code pc = .ok (.if_icmp .lt o, 3)) (ho : 0 ≤ (pc : Int) + o) (hq : ((pc : Int) + o).toNat = q) (hq2 : pc + 3 = q2) (Gy : x < y → Go p e below W (T.setTop (mkF m q Ls St))) (Gn : ¬ x < y → Go p e below W (T.setTop (mkF m q2 Ls St))) : Go p e below W (T.setTop (mkF m pc Ls (.int y :: .int x :: St))) :=
  g_icmp X hx hd ho hq hq2 (fun h => Gy (by simpa [if_icmp.holds] using h)) (fun h => Gn (by simpa [if_icmp.holds] using h))
theorem g_if_lt (X : Stand p l e R s m args below meth c T locs cells slots) (hx : p.tables.exec = Jvm.exec) {x : Int32} {o : Int} (hd : decode c.code pc = .ok (.ifCond .lt o, 3)) (ho : 0 ≤ (pc : Int) + o) (hq : ((pc : Int) + o).toNat = q) (hq2 : pc + 3 = q2) (Gy : x < (0 : Int32) → Go p e below W (T.setTop (mkF m q Ls St))) (Gn : ¬ x < (0 : Int32) → Go p e below W (T.setTop (mkF m q2 Ls St))) : Go p e below W (T.setTop (mkF m pc Ls (.int x :: St))) :=
  g_if0 X hx hd ho hq hq2 (fun h => Gy (by simpa [if_icmp.holds] using h)) (fun h => Gn (by simpa [if_icmp.holds] using h))
theorem g_icmp_ge (X : Stand p l e R s m args below meth c T locs cells slots) (hx : p.tables.exec = Jvm.exec) {x y : Int32} {o : Int} (hd : decode c.code pc = .ok (.if_icmp .ge o, 3)) (ho : 0 ≤ (pc : Int) + o) (hq : ((pc : Int) + o).toNat = q) (hq2 : pc + 3 = q2) (Gy : ¬ x < y → Go p e below W (T.setTop (mkF m q Ls St))) (Gn : x < y → Go p e below W (T.setTop (mkF m q2 Ls St))) : Go p e below W (T.setTop (mkF m pc Ls (.int y :: .int x :: St))) :=
  g_icmp X hx hd ho hq hq2 (fun h => Gy (by simpa [if_icmp.holds] using h)) (fun h => Gn (by simpa [if_icmp.holds] using h))
theorem g_if_ge (X : Stand p l e R s m args below meth c T locs cells slots) (hx : p.tables.exec = Jvm.exec) {x : Int32} {o : Int} (hd : decode c.code pc = .ok (.ifCond .ge o, 3)) (ho : 0 ≤ (pc : Int) + o) (hq : ((pc : Int) + o).toNat = q) (hq2 : pc + 3 = q2) (Gy : ¬ x < (0 : Int32) → Go p e below W (T.setTop (mkF m q Ls St))) (Gn : x < (0 : Int32) → Go p e below W (T.setTop (mkF m q2 Ls St))) : Go p e below W (T.setTop (mkF m pc Ls (.int x :: St))) :=
  g_if0 X hx hd ho hq hq2 (fun h => Gy (by simpa [if_icmp.holds] using h)) (fun h => Gn (by simpa [if_icmp.holds] using h))
theorem g_icmp_gt (X : Stand p l e R s m args below meth c T locs cells slots) (hx : p.tables.exec = Jvm.exec) {x y : Int32} {o : Int} (hd : decode c.code pc = .ok (.if_icmp .gt o, 3)) (ho : 0 ≤ (pc : Int) + o) (hq : ((pc : Int) + o).toNat = q) (hq2 : pc + 3 = q2) (Gy : y < x → Go p e below W (T.setTop (mkF m q Ls St))) (Gn : ¬ y < x → Go p e below W (T.setTop (mkF m q2 Ls St))) : Go p e below W (T.setTop (mkF m pc Ls (.int y :: .int x :: St))) :=
  g_icmp X hx hd ho hq hq2 (fun h => Gy (by simpa [if_icmp.holds] using h)) (fun h => Gn (by simpa [if_icmp.holds] using h))
theorem g_if_gt (X : Stand p l e R s m args below meth c T locs cells slots) (hx : p.tables.exec = Jvm.exec) {x : Int32} {o : Int} (hd : decode c.code pc = .ok (.ifCond .gt o, 3)) (ho : 0 ≤ (pc : Int) + o) (hq : ((pc : Int) + o).toNat = q) (hq2 : pc + 3 = q2) (Gy : (0 : Int32) < x → Go p e below W (T.setTop (mkF m q Ls St))) (Gn : ¬ (0 : Int32) < x → Go p e below W (T.setTop (mkF m q2 Ls St))) : Go p e below W (T.setTop (mkF m pc Ls (.int x :: St))) :=
  g_if0 X hx hd ho hq hq2 (fun h => Gy (by simpa [if_icmp.holds] using h)) (fun h => Gn (by simpa [if_icmp.holds] using h))
theorem g_icmp_le (X : Stand p l e R s m args below meth c T locs cells slots) (hx : p.tables.exec = Jvm.exec) {x y : Int32} {o : Int} (hd : decode c.code pc = .ok (.if_icmp .le o, 3)) (ho : 0 ≤ (pc : Int) + o) (hq : ((pc : Int) + o).toNat = q) (hq2 : pc + 3 = q2) (Gy : ¬ y < x → Go p e below W (T.setTop (mkF m q Ls St))) (Gn : y < x → Go p e below W (T.setTop (mkF m q2 Ls St))) : Go p e below W (T.setTop (mkF m pc Ls (.int y :: .int x :: St))) :=
  g_icmp X hx hd ho hq hq2 (fun h => Gy (by simpa [if_icmp.holds] using h)) (fun h => Gn (by simpa [if_icmp.holds] using h))
theorem g_if_le (X : Stand p l e R s m args below meth c T locs cells slots) (hx : p.tables.exec = Jvm.exec) {x : Int32} {o : Int} (hd : decode c.code pc = .ok (.ifCond .le o, 3)) (ho : 0 ≤ (pc : Int) + o) (hq : ((pc : Int) + o).toNat = q) (hq2 : pc + 3 = q2) (Gy : ¬ (0 : Int32) < x → Go p e below W (T.setTop (mkF m q Ls St))) (Gn : (0 : Int32) < x → Go p e below W (T.setTop (mkF m q2 Ls St))) : Go p e below W (T.setTop (mkF m pc Ls (.int x :: St))) :=
  g_if0 X hx hd ho hq hq2 (fun h => Gy (by simpa [if_icmp.holds] using h)) (fun h => Gn (by simpa [if_icmp.holds] using h))
theorem g_acmpEq (X : Stand p l e R s m args below meth c T locs cells slots) (hx : p.tables.exec = Jvm.exec) {x y : Value} (h1 : x.isRef = true) (h2 : y.isRef = true) {o : Int} (hd : decode c.code pc = .ok (.if_acmp .eq o, 3)) (ho : 0 ≤ (pc : Int) + o) (hq : ((pc : Int) + o).toNat = q) (hq2 : pc + 3 = q2)
    (Gy : x = y → Go p e below W (T.setTop (mkF m q Ls St))) (Gn : ¬ x = y → Go p e below W (T.setTop (mkF m q2 Ls St))) : Go p e below W (T.setTop (mkF m pc Ls (y :: x :: St))) := by
  by_cases hc : x = y
  · exact (Gy hc).on fun t k => Jvm.RoadKit.acmp X hx rfl h1 h2 (pc0 := pc) (same := true) rfl hd rfl (decide_eq_true hc) ho (by simp [acV, hq]) k
  · exact (Gn hc).on fun t k => Jvm.RoadKit.acmp X hx rfl h1 h2 (pc0 := pc) (same := false) rfl hd rfl (decide_eq_false hc) ho (by simp [acV, hq2]) k
theorem g_acmpNe (X : Stand p l e R s m args below meth c T locs cells slots) (hx : p.tables.exec = Jvm.exec) {x y : Value} (h1 : x.isRef = true) (h2 : y.isRef = true) {o : Int} (hd : decode c.code pc = .ok (.if_acmp .ne o, 3)) (ho : 0 ≤ (pc : Int) + o) (hq : ((pc : Int) + o).toNat = q) (hq2 : pc + 3 = q2)
    (Gy : ¬ x = y → Go p e below W (T.setTop (mkF m q Ls St))) (Gn : x = y → Go p e below W (T.setTop (mkF m q2 Ls St))) : Go p e below W (T.setTop (mkF m pc Ls (y :: x :: St))) := by
  by_cases hc : x = y
  · exact (Gn hc).on fun t k => Jvm.RoadKit.acmp X hx rfl h1 h2 (pc0 := pc) (same := true) rfl hd rfl (decide_eq_true hc) ho (by simp [acV, hq2]) k
  · exact (Gy hc).on fun t k => Jvm.RoadKit.acmp X hx rfl h1 h2 (pc0 := pc) (same := false) rfl hd rfl (decide_eq_false hc) ho (by simp [acV, hq]) k
theorem g_ifnullY (X : Stand p l e R s m args below meth c T locs cells slots) (hx : p.tables.exec = Jvm.exec) {o : Int} (hd : decode c.code pc = .ok (.ifnull o, 3)) (ho : 0 ≤ (pc : Int) + o) (hq : ((pc : Int) + o).toNat = q) (G : Go p e below W (T.setTop (mkF m q Ls St))) : Go p e below W (T.setTop (mkF m pc Ls (.null :: St))) :=
  G.on fun t k => XS.ifnullYes X.here hx rfl rfl hd rfl ho hq k
theorem g_ifnullN (X : Stand p l e R s m args below meth c T locs cells slots) (hx : p.tables.exec = Jvm.exec) {o : Int} {b : Addr} (hd : decode c.code pc = .ok (.ifnull o, 3)) (hq : pc + 3 = q) (G : Go p e below W (T.setTop (mkF m q Ls St))) : Go p e below W (T.setTop (mkF m pc Ls (.ref b :: St))) := by
  subst hq; exact G.on fun t k => XS.ifnullNo X.here hx rfl hd rfl k
theorem g_ifnonnullN (X : Stand p l e R s m args below meth c T locs cells slots) (hx : p.tables.exec = Jvm.exec) {o : Int} (hd : decode c.code pc = .ok (.ifnonnull o, 3)) (hq : pc + 3 = q) (G : Go p e below W (T.setTop (mkF m q Ls St))) : Go p e below W (T.setTop (mkF m pc Ls (.null :: St))) := by
  subst hq; exact G.on fun t k => XS.ifnonnullNo X.here hx rfl hd rfl k
theorem g_ifnonnullY (X : Stand p l e R s m args below meth c T locs cells slots) (hx : p.tables.exec = Jvm.exec) {o : Int} {b : Addr} (hd : decode c.code pc = .ok (.ifnonnull o, 3)) (ho : 0 ≤ (pc : Int) + o) (hq : ((pc : Int) + o).toNat = q) (G : Go p e below W (T.setTop (mkF m q Ls St))) : Go p e below W (T.setTop (mkF m pc Ls (.ref b :: St))) :=
  G.on fun t k => XS.ifnonnullYes X.here hx rfl rfl hd rfl ho hq k
end Branches
section HeapSteps
theorem g_ldcI (X : Stand p l e R s m args below meth c T locs cells slots) (hx : p.tables.exec = Jvm.exec) (hZ : Z.Warmed39 s.vm) {own : String} {index : Nat} {v : Int32} (hown : s.vm.findClass own = some m.cls) (w : (Jvm.Cond.constant own index v).before a0 Z = true) (hd : decode c.code pc = .ok (.ldc index, 2)) (hq : pc + 2 = q)
    (G : Go p e below W (T.setTop (mkF m q Ls (.int v :: St)))) : Go p e below W (T.setTop (mkF m pc Ls St)) := by
  subst hq; exact G.on fun t k => X.ldcInt hx hown (mvT hZ w) (g := mkF m pc Ls St) rfl hd t k
theorem g_ldcJ (X : Stand p l e R s m args below meth c T locs cells slots) (hx : p.tables.exec = Jvm.exec) (hZ : Z.Warmed39 s.vm) {own : String} {index : Nat} {v : Int64} (hown : s.vm.findClass own = some m.cls) (w : (Jvm.Cond.constantLong own index v).before a0 Z = true) (hd : decode c.code pc = .ok (.ldc2_w index, 3)) (hq : pc + 3 = q)
    (G : Go p e below W (T.setTop (mkF m q Ls (.long v :: St)))) : Go p e below W (T.setTop (mkF m pc Ls St)) := by
  subst hq; exact G.on fun t k => X.ldc2Long hx hown (mvT hZ w) (g := mkF m pc Ls St) rfl hd t k
theorem g_getF (X : Stand p l e R s m args below meth c T locs cells slots) (hx : p.tables.exec = Jvm.exec) (hZ : Z.Warmed39 s.vm) {own R0 O n d : String} {index : Nat} (hown : s.vm.findClass own = some m.cls) (w : (Jvm.Cond.fieldLink own index R0 n d).before a0 Z = true) (via : Via Z R0 O n d)
    (eT : T.heap = h) {a : Addr} {v : Value} (F : Fld Z h a O n d v) (hd : decode c.code pc = .ok (.getfield index, 3)) (hq : pc + 3 = q)
    (G : ∀ T', Stand p l e R s m args below meth c T' locs cells slots → T'.heap = h → Go p e below W (T'.setTop (mkF m q Ls (v :: St)))) : Go p e below W (T.setTop (mkF m pc Ls (.ref a :: St))) := by
  subst hq
  obtain ⟨T', X', e', st⟩ := getF X hx hZ hown (host := "") (Or.inl w) via eT F (g := mkF m pc Ls (.ref a :: St)) rfl rfl hd
  exact (G T' X' e').on st
theorem g_getS (X : Stand p l e R s m args below meth c T locs cells slots) (hx : p.tables.exec = Jvm.exec) (hZ : Z.Warmed39 s.vm) {own R0 O n d : String} {index : Nat} (hown : s.vm.findClass own = some m.cls) (w : (Jvm.Cond.fieldLink own index R0 n d).before a0 Z = true) (via : Via Z R0 O n d)
    (eT : T.heap = h) {v : Value} (F : Sta Z h O n d v) (hd : decode c.code pc = .ok (.getstatic index, 3)) (hq : pc + 3 = q)
    (G : ∀ T', Stand p l e R s m args below meth c T' locs cells slots → T'.heap = h → Go p e below W (T'.setTop (mkF m q Ls (v :: St)))) : Go p e below W (T.setTop (mkF m pc Ls St)) := by
  subst hq
  obtain ⟨T', X', e', st⟩ := getS2 X hx hZ hown (host := "") (Or.inl w) via eT F (g := mkF m pc Ls St) rfl hd
  exact (G T' X' e').on st
theorem g_putF (X : Stand p l e R s m args below meth c T locs cells slots) (hx : p.tables.exec = Jvm.exec) (hZ : Z.Warmed39 s.vm) {own R0 O n d C : String} {index kk : Nat} {ty : FieldType} (hown : s.vm.findClass own = some m.cls) (w : (Jvm.Cond.fieldLink own index R0 n d).before a0 Z = true) (via : Via Z R0 O n d)
    (eT : T.heap = h) {a : Addr} {v old : Value} (F : Fld Z h a O n d old) (E : Exa Z h a C) (L : (Jvm.Cond.lays C O n d).before a0 Z = true ∨ ((Jvm.Cond.laysFinal C O n d).before a0 Z = true ∧ own = O ∧ meth.name = "<init>")) (wi : (Jvm.Cond.instantiable C kk).before a0 Z = true)
    (hty : parseFieldDescriptor d = some ty) (hn : narrow ty v = v) (hf : fits ty v = true) (hd : decode c.code pc = .ok (.putfield index, 3)) (hq : pc + 3 = q)
    (G : ∀ T' h', Stand p l e R s m args below meth c T' (locs ++ [⟨a, Jvm.RoadKit.slotOf Z O n d⟩]) cells slots → T'.heap = h' → Wr h h' a (Jvm.RoadKit.slotOf Z O n d) v → Go p e below W (T'.setTop (mkF m q Ls St))) : Go p e below W (T.setTop (mkF m pc Ls (v :: .ref a :: St))) := by
  subst hq
  obtain ⟨T', h', X', e', W', st⟩ := putF X hx hZ hown (host := "") (Or.inl w) via eT F E L wi hty hn hf (g := mkF m pc Ls (v :: .ref a :: St)) rfl rfl hd
  exact (G T' h' X' e' W').on st
theorem g_new (X : Stand p l e R s m args below meth c T locs cells slots) (hx : p.tables.exec = Jvm.exec) (hZ : Z.Warmed39 s.vm) {own C : String} {index n : Nat} (hown : s.vm.findClass own = some m.cls) (w : (Jvm.Cond.classLink own index C).before a0 Z = true) (wi : (Jvm.Cond.instantiable C n).before a0 Z = true) (wz : (Jvm.Cond.initialized C).before a0 Z = true) (eT : T.heap = h)
    (hd : decode c.code pc = .ok (.new index, 3)) (hc : cells + 1 ≤ R.cells) (hl : slots + n ≤ R.slots) (hq : pc + 3 = q)
    (G : ∀ T' h' b, b = h.size → Stand p l e R s m args below meth c T' locs (cells + 1) (slots + n) → T'.heap = h' → Ext h h' → Exa Z h' b C → (∀ {O nm d : String} {ty : FieldType}, Laid Z a0 C O nm d → parseFieldDescriptor d = some ty → Fld Z h' b O nm d (defaultValue ty)) → Go p e below W (T'.setTop (mkF m q Ls (.ref b :: St)))) :
    Go p e below W (T.setTop (mkF m pc Ls St)) := by
  subst hq
  obtain ⟨T', h', X', e', E', A', D', -, st⟩ := newO X hx hZ hown w wi wz eT (g := mkF m pc Ls St) rfl hd hc hl
  exact (G T' h' _ rfl X' e' E' A' D').on st
theorem g_newP (X : Stand p l e R s m args below meth c T locs cells slots) (hx : p.tables.exec = Jvm.exec) (hZ : Z.Warmed39 s.vm) {aty : ArrayType} (w : (Jvm.Cond.arrayClass (newarray.typeOf aty)).before a0 Z = true) (eT : T.heap = h) (hd : decode c.code pc = .ok (.newarray aty, 2)) {n : Int32} (hn : ¬ n < 0) {cap : Nat} (hcap : n.toNatClampNeg ≤ cap) (hb : cap * 8 ≤ 536870912) (hc : cells + 1 ≤ R.cells) (hl : slots + cap ≤ R.slots) (hq : pc + 2 = q)
    (G : ∀ T' h' cA b, b = h.size → Stand p l e R s m args below meth c T' locs (cells + 1) (slots + cap) → T'.heap = h' → Ext h h' → Arr Z h' b (newA cA (newarray.typeOf aty) n) (newarray.typeOf aty) → Go p e below W (T'.setTop (mkF m q Ls (.ref b :: St)))) :
    Go p e below W (T.setTop (mkF m pc Ls (.int n :: St))) := by
  subst hq
  obtain ⟨T', h', cA, X', e', E', A', st⟩ := newP X hx hZ w eT (g := mkF m pc Ls (.int n :: St)) rfl hd rfl hn hcap hb hc hl
  exact (G T' h' cA _ rfl X' e' E' A').on st
theorem g_initO (X : Stand p l e R s m args below meth c T locs cells slots) (hx : p.tables.exec = Jvm.exec) (hZ : Z.Warmed39 s.vm) {own : String} {idx : Nat} (hown : s.vm.findClass own = some m.cls) (w1 : (Jvm.Cond.methodLink own idx Lib.objectInit).before a0 Z = true) (w2 : (Jvm.Cond.instanceMethod Lib.objectInit).before a0 Z = true)
    (w3 : (Jvm.Cond.code Lib.objectInit ⟨#[0xb1]⟩ 1 none).before a0 Z = true) (eT : T.heap = h) (hsz : Ls.size = c.maxLocals) {a : Addr} (hd : decode c.code pc = .ok (.invokespecial idx, 3)) (hf : 1 ≤ R.frames) (hl : (St.map fun v => v.category).sum + 12 ≤ R.locals) (hq : pc + 3 = q)
    (G : ∀ T', Stand p l e R s m args below meth c T' locs cells slots → T'.heap = h → Go p e below W (T'.setTop (mkF m q Ls St))) : Go p e below W (T.setTop (mkF m pc Ls (.ref a :: St))) := by
  subst hq
  obtain ⟨T', X', e', st⟩ := initO X hx hZ hown w1 w2 w3 eT (g := mkF m pc Ls (.ref a :: St)) rfl hsz rfl hd hf (W := (St.map fun v => v.category).sum) (by simp) hl
  exact (G T' X' e').on st
end HeapSteps
section Calls
variable {y z : MethodName} {bytes : ByteArray} {ml : Nat} {ret r : Option FieldType} {rm : Room} {as' : Array Value} {Q : Option Value → Heap → List Loc → Prop} {own C : String} {index : Nat} {ps : List FieldType}
theorem g_pure {V : Option Value} {rest : List Value} (h1 : rm.cells = 0) (h2 : rm.slots = 0) (G : ∀ T', Stand p l e R s m args below meth c T' locs cells slots → T'.heap = h → Go p e below W (T'.setTop (mkF m q Ls (V.toList ++ rest)))) :
    ∀ v T' L, Stand p l e R s m args below meth c T' (locs ++ L) (cells + rm.cells) (slots + rm.slots) → Pur V h v T'.heap L → Go p e below W (T'.setTop (mkF m q Ls (v.toList ++ rest))) := by
  intro v T' L X' hQ
  obtain ⟨rfl, rfl, e'⟩ := hQ
  rw [h1, h2, List.append_nil] at X'
  exact G T' X' e'
theorem g_callS (X : Stand p l e R s m args below meth c T locs cells slots) (hx : p.tables.exec = Jvm.exec) (hZ : Z.Warmed39 s.vm) (hown : s.vm.findClass own = some m.cls) (w1 : (Jvm.Cond.methodLink own index y).before a0 Z = true) (w2 : (Jvm.Cond.static y).before a0 Z = true) (w3 : (Jvm.Cond.initialized y.cls).before a0 Z = true) (w4 : (Jvm.Cond.code y bytes ml ret).before a0 Z = true)
    (hy : y.cls ≠ "java/lang/invoke/MethodHandle" ∧ y.cls ≠ "java/lang/invoke/VarHandle") (eT : T.heap = h) (hM : Con l Z h y bytes ml ret rm as' Q) (hsz : Ls.size = c.maxLocals) {argsL rest : List Value} (hst : St = argsL.reverse ++ rest) (has : argsL.toArray = as') (hpd : parseMethodDescriptor y.desc = some ⟨ps, r⟩) (hln : argsL.length = ps.length)
    (hf : rm.frames + 1 ≤ R.frames) (hl : (rest.map fun v => v.category).sum + (ml + 11) + rm.locals ≤ R.locals) (hc : cells + rm.cells ≤ R.cells) (hs : slots + rm.slots ≤ R.slots) (hd : decode c.code pc = .ok (.invokestatic index, 3)) (hq : pc + 3 = q)
    (G : ∀ v T' L, Stand p l e R s m args below meth c T' (locs ++ L) (cells + rm.cells) (slots + rm.slots) → Q v T'.heap L → Go p e below W (T'.setTop (mkF m q Ls (v.toList ++ rest)))) : Go p e below W (T.setTop (mkF m pc Ls St)) := by
  subst hq has
  obtain ⟨v, _, ⟨T', L', k', n'⟩, -, X', ⟨L, hQ, l', y', z'⟩, st⟩ := Jvm.LawKit.callS X hx hown (mvT hZ w1) (mvT hZ w2) (mvT hZ w3) (mvT hZ w4) hy (backOf (W := (rest.map fun v => v.category).sum) (hM []) hZ w4 w3 hf hl) (g := mkF m pc Ls St) rfl hsz (argsL := argsL) (rest := rest) (lenOf hpd hln) hst (by simp) hd (fun _ _ => ⟨rfl, eT, hc, hs⟩)
  dsimp only [Pt.U, Pt.locs, Pt.cells, Pt.slots] at X' l' y' z' st hQ
  subst l' y' z'
  exact (G v T' L X' hQ).on st
theorem g_callV (X : Stand p l e R s m args below meth c T locs cells slots) (hx : p.tables.exec = Jvm.exec) (hZ : Z.Warmed39 s.vm) (hown : s.vm.findClass own = some m.cls) (w1 : (Jvm.Cond.methodLink own index y).before a0 Z = true) (w2 : (Jvm.Cond.declares y).before a0 Z = true) (w3 : (Jvm.Cond.selects C y z).before a0 Z = true) (w4 : (Jvm.Cond.instanceMethod z).before a0 Z = true) (w5 : (Jvm.Cond.code z bytes ml ret).before a0 Z = true) (w6 : (Jvm.Cond.initialized z.cls).before a0 Z = true)
    (hnf : NotFace s y) (hy : y.cls ≠ "java/lang/invoke/MethodHandle" ∧ y.cls ≠ "java/lang/invoke/VarHandle") (eT : T.heap = h) {b : Addr} (E : Exa Z h b C) (hM : Con l Z h z bytes ml ret rm as' Q) (hsz : Ls.size = c.maxLocals) {argsL rest : List Value} (hst : St = argsL.reverse ++ .ref b :: rest) (has : (Value.ref b :: argsL).toArray = as') (hpd : parseMethodDescriptor y.desc = some ⟨ps, r⟩) (hln : argsL.length = ps.length)
    (hf : rm.frames + 1 ≤ R.frames) (hl : (rest.map fun v => v.category).sum + (ml + 11) + rm.locals ≤ R.locals) (hc : cells + rm.cells ≤ R.cells) (hs : slots + rm.slots ≤ R.slots) (hd : decode c.code pc = .ok (.invokevirtual index, 3)) (hq : pc + 3 = q)
    (G : ∀ v T' L, Stand p l e R s m args below meth c T' (locs ++ L) (cells + rm.cells) (slots + rm.slots) → Q v T'.heap L → Go p e below W (T'.setTop (mkF m q Ls (v.toList ++ rest)))) : Go p e below W (T.setTop (mkF m pc Ls St)) := by
  subst hq has
  obtain ⟨cq, kq, qa, qb, qc⟩ := isOf hZ eT E
  obtain ⟨v, _, ⟨T', L', k', n'⟩, -, X', ⟨L, hQ, l', y', z'⟩, st⟩ := X.virtualBack hx hown (mvT hZ w1) (mvT hZ w2) hnf (mvT hZ w3) (mvT hZ w4) hy (backOf (W := (rest.map fun v => v.category).sum) (hM []) hZ w5 w6 hf hl) qa qc (g := mkF m pc Ls St) rfl hsz (Steps.refl _) (argsL := argsL) (rest := rest) (lenOf hpd hln) hst (by simp) hd (fun _ _ => ⟨rfl, eT, hc, hs⟩)
  dsimp only [Pt.U, Pt.locs, Pt.cells, Pt.slots] at X' l' y' z' st hQ
  subst l' y' z'
  exact (G v T' L X' hQ).on fun t k => st.trans k
theorem g_callI (X : Stand p l e R s m args below meth c T locs cells slots) (hx : p.tables.exec = Jvm.exec) (hZ : Z.Warmed39 s.vm) (hown : s.vm.findClass own = some m.cls) (hnm : y.name = "<init>") (w1 : (Jvm.Cond.methodLink own index y).before a0 Z = true) (w2 : (Jvm.Cond.instanceMethod y).before a0 Z = true) (w3 : (Jvm.Cond.code y bytes ml none).before a0 Z = true) (w4 : (Jvm.Cond.initialized y.cls).before a0 Z = true)
    (hy : y.cls ≠ "java/lang/invoke/MethodHandle" ∧ y.cls ≠ "java/lang/invoke/VarHandle") (eT : T.heap = h) {b : Addr} (hM : Con l Z h y bytes ml none rm as' Q) (hsz : Ls.size = c.maxLocals) {argsL rest : List Value} (hst : St = argsL.reverse ++ .ref b :: rest) (has : (Value.ref b :: argsL).toArray = as') (hpd : parseMethodDescriptor y.desc = some ⟨ps, r⟩) (hln : argsL.length = ps.length)
    (hf : rm.frames + 1 ≤ R.frames) (hl : (rest.map fun v => v.category).sum + (ml + 11) + rm.locals ≤ R.locals) (hc : cells + rm.cells ≤ R.cells) (hs : slots + rm.slots ≤ R.slots) (hd : decode c.code pc = .ok (.invokespecial index, 3)) (hq : pc + 3 = q)
    (G : ∀ v T' L, Stand p l e R s m args below meth c T' (locs ++ L) (cells + rm.cells) (slots + rm.slots) → Q v T'.heap L → Go p e below W (T'.setTop (mkF m q Ls (v.toList ++ rest)))) : Go p e below W (T.setTop (mkF m pc Ls St)) := by
  subst hq has
  obtain ⟨v, _, ⟨T', L', k', n'⟩, -, X', ⟨L, hQ, l', y', z'⟩, st⟩ := X.specialBack hx (y := y) hnm hown (mvT hZ w1) (mvT hZ w2) (mvT hZ w3) hy (backOf (W := (rest.map fun v => v.category).sum) (hM []) hZ w3 w4 hf hl) (g := mkF m pc Ls St) rfl hsz (Steps.refl _) (a := b) (argsL := argsL) (rest := rest) (lenOf hpd hln) hst (by simp) hd (fun _ _ => ⟨rfl, eT, hc, hs⟩)
  dsimp only [Pt.U, Pt.locs, Pt.cells, Pt.slots] at X' l' y' z' st hQ
  subst l' y' z'
  exact (G v T' L X' hQ).on fun t k => st.trans k
end Calls
end OwnKit
section OwnMore
theorem own_sta_keep {Z : State} {h h' : Heap} {C n d : String} {w : Value} {ws : List Addr} (F : Sta Z h C n d w) (K : Keep h h' ws) (hn : ∀ x ∈ ws, ∀ cell : Cell, h[x]? = some cell → cell.vm.isStatics = false) : Sta Z h' C n d w := by
  obtain ⟨cf, i, k, f, st, cell, h1, h2, h3, h4, h5, h6, h7⟩ := F
  exact ⟨cf, i, k, f, st, cell, h1, h2, h3, h4, K.2.1 _ _ h5 (fun q => by rw [hn _ q _ h5] at h6; cases h6), h6, h7⟩
theorem own_cat1 {v : Value} (h : v.isRef = true) : v.category = 1 := by cases v <;> first | rfl | cases h
theorem own_nar {C : String} {v : Value} (h : v.isRef = true) : narrow (.object C) v = v := by cases v <;> first | rfl | cases h
theorem own_fit {C : String} {v : Value} (h : v.isRef = true) : fits (.object C) v = true := by cases v <;> first | rfl | cases h
theorem own_noref {a b : Addr} (h : ¬ a = b) : ¬ (Value.ref a = Value.ref b) := fun q => h (Value.ref.inj q)
end OwnMore
section OwnStart
variable {args : Array Value} {s : State}
theorem own_fldI {t : Term} {C n d : String} {k : Int32} {a : Addr} (ev : t.eval args s none [] s = some (.ref a)) (hh : (Jvm.Cond.eq (Term.field t C n d) (Term.int k)).value args s none s [] = some true) : Fld s s.heap a C n d (.int k) := by
  obtain ⟨x, y, e1, e2, k1, k2⟩ := cmp_v (Or.inl hh)
  obtain rfl : y = .int k := (Option.some.inj ((Term.int_eval k).symm.trans e2)).symm
  obtain ⟨z, rfl⟩ := k2
  have q : z = k := by simpa [Cond.value, e1, e2] using hh
  subst q
  exact Fld.start ((fld_at ev).symm.trans e1)
theorem own_fldJ {t : Term} {C n d : String} {k : Int64} {a : Addr} (ev : t.eval args s none [] s = some (.ref a)) (hh : (Jvm.Cond.eq (Term.field t C n d) (Term.long k)).value args s none s [] = some true) : Fld s s.heap a C n d (.long k) := by
  obtain ⟨x, y, e1, e2, k1, k2⟩ := cmp_v (Or.inl hh)
  obtain rfl : y = .long k := (Option.some.inj ((long_at k).symm.trans e2)).symm
  obtain ⟨z, rfl⟩ := k2
  have q : z = k := by simpa [Cond.value, e1, e2] using hh
  subst q
  exact Fld.start ((fld_at ev).symm.trans e1)
end OwnStart
section OwnWide
variable {p : Program} {l : Launch} {e : Env} {R : Room} {s : State} {m : MethodId} {args : Array Value} {below : List Frame} {meth : Method} {c : Code} {T : State} {locs : List Loc} {cells slots : Nat} {Z : State} {a0 : Array Value} {h : Heap} {W : State → Prop} {pc q : Nat} {Ls : Array Slot} {St : List Value} {vm0 : Vm} {k0 : Nat}
/-- what a body that may intern must leave -/
def WdW (s : State) (below : List Frame) (Q : Option Value → Heap → List Loc → Prop) (k n : Nat) (U : State) : Prop := U.status = .running ∧ ∃ v, Ended U below (.returned v) ∧ ∃ L, Q v U.heap L ∧ ReturnedEndW s (.returned v) U L k n
def ConW (l : Launch) (Z : State) (h0 : Heap) (y : MethodName) (bytes : ByteArray) (ml : Nat) (ret : Option FieldType) (rm : Room) (as' : Array Value) (Q : Option Value → Heap → List Loc → Prop) : Prop :=
  ∀ ws : List Jvm.Cond, MetFree l y (head1 (Jvm.Cond.code y bytes ml ret :: ws) rm) (fun a U => a = as' ∧ Z.Warmed39 U.vm ∧ U.heap = h0) (fun _ _ _ _ _ => True) (fun _ U o U' => ∃ v L, o = .returned v ∧ Q v U'.heap L ∧ ReturnedEndW U o U' L rm.cells rm.slots)
theorem con_ofW {h0 : Heap} {y : MethodName} {bytes : ByteArray} {ml : Nat} {ret : Option FieldType} {rm : Room} {as' : Array Value} {Q : Option Value → Heap → List Loc → Prop} (hpl : plainFor y = true) {Ls : Array Slot}
    (hef : ∀ m : MethodId, entryFrame m as' ml = mkF m 0 Ls [])
    (body : ∀ (p : Program) (e : Env) (s : State) (m : MethodId) (below : List Frame) (meth : Method) (c : Code) (s₁ : State) (vm0 : Vm) (k0 : Nat), p.tables.exec = Jvm.exec → Z.Warmed39 (s.setVm vm0).vm → c.code = bytes → c.maxLocals = ml → meth.sig.returnType = ret → meth.locks = false → meth.name = y.name → (s.setVm vm0).vm.findClass y.cls = some m.cls →
      Stand p l e rm (s.setVm vm0) m as' below meth c s₁ [] 0 0 → s₁.heap = h0 → s.Since vm0 k0 → k0 ≤ h0.size → Go p e below (WdW s below Q rm.cells rm.slots) (s₁.setTop (mkF m 0 Ls []))) : ConW l Z h0 y bytes ml ret rm as' Q := by
  intro ws
  refine MetFree.of_bodySF hpl hisR ?_
  intro p e s m args below meth c s₁ Bd hml0 hP hK
  obtain ⟨rfl, hZ, hh⟩ := hP
  obtain ⟨U, h1, h2, v, h3, L, h4, h5⟩ := body p e s m below meth c s₁ s.vm 0 Bd.exec hZ Bd.bytes hml0 Bd.returns Bd.notSynchronized (name_of_methodNamed Bd.named Bd.method).1 (findClass_of_methodNamed Bd.named) (Stand.of_body Bd) (by rw [← hh, Bd.state]; rfl) ((State.WarmedH.refl s).since 0) (Nat.zero_le _)
  rw [← hef] at h1
  exact ⟨U, _, h1, h2, h3, v, L, rfl, h4, h5⟩
theorem g_leaveW (X : Stand p l e R (s.setVm vm0) m args below meth c T locs cells slots) (hS : s.Since vm0 k0) (hk0 : k0 ≤ T.heap.size) {v : Option Value} (hv : meth.sig.returnType = none → v = none) (hlk : meth.locks = false) {S : State} {Q : Option Value → Heap → List Loc → Prop} {k n : Nat}
    (st : ∀ fs, (∀ (f : JFrame) (acts : List Action), f.method = m → f.locked = none → f.entered = [] → (doReturn e (T.setTop f) acts v).1 = T.setFrames fs) → Steps p.tables e below S (T.setFrames fs))
    (hQ : Q v T.heap locs) (hk : cells ≤ k) (hn : slots ≤ n) : Go p e below (WdW s below Q k n) S := by
  obtain ⟨fs, hr, hrun, hended, hE⟩ := X.leaveW hS hk0 (v := v) hv hlk
  exact ⟨_, st fs hr, hrun, v, hended, locs, hQ, hE.1, hE.2.1, hE.2.2.1, hE.2.2.2.mono hk hn⟩
section LeavesW
variable {Q : Option Value → Heap → List Loc → Prop} {k n : Nat}
theorem g_retBW (X : Stand p l e R (s.setVm vm0) m args below meth c T locs cells slots) (hS : s.Since vm0 k0) (hk0 : k0 ≤ T.heap.size) (hx : p.tables.exec = Jvm.exec) {z : Int32} (hret : meth.sig.returnType = some .boolean) (hlk : meth.locks = false) (hd : decode c.code pc = .ok (.ireturn, 1)) (hz : z = 0 ∨ z = 1)
    (hQ : Q (some (.int z)) T.heap locs) (hk : cells ≤ k) (hn : slots ≤ n) : Go p e below (WdW s below Q k n) (T.setTop (mkF m pc Ls (.int z :: St))) :=
  g_leaveW X hS hk0 (fun h => by rw [hret] at h; cases h) hlk (fun fs hr => retOut X hx hret (by rcases hz with rfl | rfl <;> rfl) (Or.inl ⟨rfl, Or.inr (Or.inl rfl), z, rfl⟩) hd hr) hQ hk hn
theorem g_retVW (X : Stand p l e R (s.setVm vm0) m args below meth c T locs cells slots) (hS : s.Since vm0 k0) (hk0 : k0 ≤ T.heap.size) (hx : p.tables.exec = Jvm.exec) (hret : meth.sig.returnType = none) (hlk : meth.locks = false) (hd : decode c.code pc = .ok (.return_, 1))
    (hQ : Q none T.heap locs) (hk : cells ≤ k) (hn : slots ≤ n) : Go p e below (WdW s below Q k n) (T.setTop (mkF m pc Ls [])) :=
  g_leaveW X hS hk0 (fun _ => rfl) hlk (fun fs hr => X.returnOut hx hret hd hr) hQ hk hn
theorem g_retAW (X : Stand p l e R (s.setVm vm0) m args below meth c T locs cells slots) (hS : s.Since vm0 k0) (hk0 : k0 ≤ T.heap.size) (hx : p.tables.exec = Jvm.exec) {t : FieldType} {w : Value} (hret : meth.sig.returnType = some t) (hlk : meth.locks = false) (hd : decode c.code pc = .ok (.areturn, 1)) (ht : t.isReference = true) (hw : w.isRef = true) (hn' : narrow t w = w)
    (hQ : Q (some w) T.heap locs) (hk : cells ≤ k) (hn : slots ≤ n) : Go p e below (WdW s below Q k n) (T.setTop (mkF m pc Ls (w :: St))) :=
  g_leaveW X hS hk0 (fun h => by rw [hret] at h; cases h) hlk (fun fs hr => retOut X hx hret hn' (Or.inr (Or.inr (Or.inr (Or.inr ⟨rfl, ht, hw⟩)))) hd hr) hQ hk hn
end LeavesW
theorem g_ldcS (X : Stand p l e R (s.setVm vm0) m args below meth c T locs cells slots) (hx : p.tables.exec = Jvm.exec) (hZ : Z.Warmed39 (s.setVm vm0).vm) {own text : String} {index : Nat} (hown : (s.setVm vm0).vm.findClass own = some m.cls) (w : (Jvm.Cond.stringLink own index text).before a0 Z = true) (wS : ∀ a ∈ Bundle.stringAtoms, a.before a0 Z = true)
    (eT : T.heap = h) (hS : s.Since vm0 k0) (hk : k0 ≤ h.size) (hd : decode c.code pc = .ok (.ldc index, 2)) {n : Nat} (hn : 4 * text.toList.length ≤ n) (hbig : n ≤ 536870912) (hc : cells + 2 ≤ R.cells) (hl : slots + (n + 4) ≤ R.slots) (hq : pc + 2 = q)
    (G : ∀ a T' h' k1, Stand p l e R (s.setVm T'.vm) m args below meth c T' locs (cells + 2) (slots + (n + 4)) → T'.heap = h' → Ext h h' → s.Since T'.vm k1 → k1 ≤ h'.size → Z.Warmed39 (s.setVm T'.vm).vm → (s.setVm T'.vm).vm.findClass own = some m.cls → Go p e below W (T'.setTop (mkF m q Ls (.ref a :: St)))) :
    Go p e below W (T.setTop (mkF m pc Ls St)) := by
  subst hq
  obtain ⟨a, T', h', k1, X', e', E', hS', hk', hZ', hown', st⟩ := ldcS X hx hZ hown w wS eT hS hk (g := mkF m pc Ls St) rfl hd hn hbig hc hl
  exact (G a T' h' k1 X' e' E' hS' hk' hZ' hown').on st
section CallsW
variable {y z : MethodName} {bytes : ByteArray} {ml : Nat} {ret r : Option FieldType} {rm : Room} {as' : Array Value} {Q : Option Value → Heap → List Loc → Prop} {own C : String} {index : Nat} {ps : List FieldType}
theorem g_callIW (X : Stand p l e R (s.setVm vm0) m args below meth c T locs cells slots) (hx : p.tables.exec = Jvm.exec) (hZ : Z.Warmed39 (s.setVm vm0).vm) (hown : (s.setVm vm0).vm.findClass own = some m.cls) (hnm : y.name = "<init>") (w1 : (Jvm.Cond.methodLink own index y).before a0 Z = true) (w2 : (Jvm.Cond.instanceMethod y).before a0 Z = true) (w3 : (Jvm.Cond.code y bytes ml none).before a0 Z = true) (w4 : (Jvm.Cond.initialized y.cls).before a0 Z = true)
    (hy : y.cls ≠ "java/lang/invoke/MethodHandle" ∧ y.cls ≠ "java/lang/invoke/VarHandle") (eT : T.heap = h) (hS : s.Since vm0 k0) (hk : k0 ≤ h.size) {b : Addr} (hM : ConW l Z h y bytes ml none rm as' Q) (hsz : Ls.size = c.maxLocals) {argsL rest : List Value} (hst : St = argsL.reverse ++ .ref b :: rest) (has : (Value.ref b :: argsL).toArray = as') (hpd : parseMethodDescriptor y.desc = some ⟨ps, r⟩) (hln : argsL.length = ps.length)
    (hf : rm.frames + 1 ≤ R.frames) (hl : (rest.map fun v => v.category).sum + (ml + 11) + rm.locals ≤ R.locals) (hc : cells + rm.cells ≤ R.cells) (hs : slots + rm.slots ≤ R.slots) (hd : decode c.code pc = .ok (.invokespecial index, 3)) (hq : pc + 3 = q)
    (G : ∀ v T' L h', T'.heap = h' → Stand p l e R (s.setVm T'.vm) m args below meth c T' (locs ++ L) (cells + rm.cells) (slots + rm.slots) → s.Since T'.vm h'.size → Z.Warmed39 (s.setVm T'.vm).vm → (s.setVm T'.vm).vm.findClass own = some m.cls → Q v h' L → Go p e below W (T'.setTop (mkF m q Ls (v.toList ++ rest)))) : Go p e below W (T.setTop (mkF m pc Ls St)) := by
  subst hq has
  obtain ⟨v, _, ⟨T', L', k', n'⟩, -, X', h2, hg, ⟨L, hQ, l', y', z'⟩, st⟩ := X.specialBackS hx (y := y) hnm hown (mvT hZ w1) (mvT hZ w2) (mvT hZ w3) hy (backOfS (W := (rest.map fun v => v.category).sum) (hM []) hZ w3 w4 hf hl) (g := mkF m pc Ls St) rfl hsz (Steps.refl _) (a := b) (argsL := argsL) (rest := rest) (lenOf hpd hln) hst (by simp) hd (fun _ _ => ⟨rfl, eT, hc, hs⟩)
  dsimp only [Pt.U, Pt.locs, Pt.cells, Pt.slots] at X' l' y' z' st hQ h2 hg
  subst l' y' z'
  obtain ⟨X2, hS2, hZ2, hown2⟩ := rebS hS (by rw [eT]; exact hk : k0 ≤ T.heap.size) X' h2 hg hZ hown
  exact (G v T' L _ rfl X2 hS2 hZ2 hown2 hQ).on fun t k => st.trans k
theorem g_callVW (X : Stand p l e R (s.setVm vm0) m args below meth c T locs cells slots) (hx : p.tables.exec = Jvm.exec) (hZ : Z.Warmed39 (s.setVm vm0).vm) (hown : (s.setVm vm0).vm.findClass own = some m.cls) (w1 : (Jvm.Cond.methodLink own index y).before a0 Z = true) (w2 : (Jvm.Cond.declares y).before a0 Z = true) (w3 : (Jvm.Cond.selects C y z).before a0 Z = true) (w4 : (Jvm.Cond.instanceMethod z).before a0 Z = true) (w5 : (Jvm.Cond.code z bytes ml ret).before a0 Z = true) (w6 : (Jvm.Cond.initialized z.cls).before a0 Z = true)
    (hnf : NotFace (s.setVm vm0) y) (hy : y.cls ≠ "java/lang/invoke/MethodHandle" ∧ y.cls ≠ "java/lang/invoke/VarHandle") (eT : T.heap = h) (hS : s.Since vm0 k0) (hk : k0 ≤ h.size) {b : Addr} (E : Exa Z h b C) (hM : ConW l Z h z bytes ml ret rm as' Q) (hsz : Ls.size = c.maxLocals) {argsL rest : List Value} (hst : St = argsL.reverse ++ .ref b :: rest) (has : (Value.ref b :: argsL).toArray = as') (hpd : parseMethodDescriptor y.desc = some ⟨ps, r⟩) (hln : argsL.length = ps.length)
    (hf : rm.frames + 1 ≤ R.frames) (hl : (rest.map fun v => v.category).sum + (ml + 11) + rm.locals ≤ R.locals) (hc : cells + rm.cells ≤ R.cells) (hs : slots + rm.slots ≤ R.slots) (hd : decode c.code pc = .ok (.invokevirtual index, 3)) (hq : pc + 3 = q)
    (G : ∀ v T' L h', T'.heap = h' → Stand p l e R (s.setVm T'.vm) m args below meth c T' (locs ++ L) (cells + rm.cells) (slots + rm.slots) → s.Since T'.vm h'.size → Z.Warmed39 (s.setVm T'.vm).vm → (s.setVm T'.vm).vm.findClass own = some m.cls → Q v h' L → Go p e below W (T'.setTop (mkF m q Ls (v.toList ++ rest)))) : Go p e below W (T.setTop (mkF m pc Ls St)) := by
  subst hq has
  obtain ⟨cq, kq, qa, qb, qc⟩ := isOf hZ eT E
  obtain ⟨v, _, ⟨T', L', k', n'⟩, -, X', h2, hg, ⟨L, hQ, l', y', z'⟩, st⟩ := X.virtualBackS hx hown (mvT hZ w1) (mvT hZ w2) hnf (mvT hZ w3) (mvT hZ w4) hy (backOfS (W := (rest.map fun v => v.category).sum) (hM []) hZ w5 w6 hf hl) qa qc (g := mkF m pc Ls St) rfl hsz (Steps.refl _) (argsL := argsL) (rest := rest) (lenOf hpd hln) hst (by simp) hd (fun _ _ => ⟨rfl, eT, hc, hs⟩)
  dsimp only [Pt.U, Pt.locs, Pt.cells, Pt.slots] at X' l' y' z' st hQ h2 hg
  subst l' y' z'
  obtain ⟨X2, hS2, hZ2, hown2⟩ := rebS hS (by rw [eT]; exact hk : k0 ≤ T.heap.size) X' h2 hg hZ hown
  exact (G v T' L _ rfl X2 hS2 hZ2 hown2 hQ).on fun t k => st.trans k
end CallsW
end OwnWide
def own_stamp (x : Int64) : Int64 := if x &&& (9223372036854775807 : Int64) = 0 then 1 else x &&& (9223372036854775807 : Int64)
theorem own_stamp_ok (x : Int64) : ¬ own_stamp x < (1 : Int64) := by
  unfold own_stamp
  split
  · decide
  · rename_i h
    have h1 := c_maskL x (9223372036854775807 : Int64) 63 (by decide) (by decide)
    have h2 : ¬ (x &&& (9223372036854775807 : Int64)).toInt = 0 := fun q => h (Int64.toInt_inj.mp q)
    have h3 : (0 : Int) ≤ x.toInt % ((2 ^ 63 : Nat) : Int) := Int.emod_nonneg _ (by decide)
    rw [Int64.lt_iff_toInt_lt]
    have h4 : (1 : Int64).toInt = 1 := rfl
    omega
theorem own_strA {Z : State} {a0 : Array Value} (hw : ∀ d ∈ tables_1, d.before a0 Z = true) : ∀ a ∈ Bundle.stringAtoms, a.before a0 Z = true := by
  intro d hd
  simp only [Bundle.stringAtoms, List.mem_cons, List.not_mem_nil, or_false] at hd
  rcases hd with rfl | rfl | rfl | rfl | rfl | rfl | rfl
  · exact hw _ (List.mem_of_getElem? (i := 23) rfl)
  · exact hw _ (List.mem_of_getElem? (i := 24) rfl)
  · exact hw _ (List.mem_of_getElem? (i := 25) rfl)
  · exact hw _ (List.mem_of_getElem? (i := 26) rfl)
  · exact hw _ (List.mem_of_getElem? (i := 27) rfl)
  · exact hw _ (List.mem_of_getElem? (i := 28) rfl)
  · exact hw _ (List.mem_of_getElem? (i := 29) rfl)
theorem pd_0 : parseMethodDescriptor "()V" = some ⟨[], none⟩ := by decide +kernel
theorem pd_1 : parseMethodDescriptor "(Ljava/lang/Object;Ljava/lang/String;)Ljava/lang/Object;" = some ⟨[(.object "java/lang/Object"), (.object "java/lang/String")], some (.object "java/lang/Object")⟩ := by decide +kernel
theorem pd_2 : parseMethodDescriptor "(J)V" = some ⟨[.long], none⟩ := by decide +kernel
theorem pd_3 : parseMethodDescriptor "(J)J" = some ⟨[.long], some .long⟩ := by decide +kernel
theorem pd_4 : parseMethodDescriptor "(Lcom/example/bullyring/bullyring/core/mutex/RicartAgrawalaMessage$Type;JJJ)V" = some ⟨[(.object "com/example/bullyring/bullyring/core/mutex/RicartAgrawalaMessage$Type"), .long, .long, .long], none⟩ := by decide +kernel
theorem pd_5 : parseMethodDescriptor "(Lcom/example/bullyring/bullyring/core/mutex/RicartAgrawalaMessage;)Z" = some ⟨[(.object "com/example/bullyring/bullyring/core/mutex/RicartAgrawalaMessage")], some .boolean⟩ := by decide +kernel
theorem pn_0 : plainName "com/example/bullyring/bullyring/core/mutex/RicartAgrawalaMessageNamesPinLaw" = true := by first | (simp [plainName, overriddenIn]; done) | decide +kernel
theorem pn_1 : plainName "java/lang/Record" = true := by first | (simp [plainName, overriddenIn]; done) | decide +kernel
theorem pn_2 : plainName "java/util/Objects" = true := by first | (simp [plainName, overriddenIn]; done) | decide +kernel
theorem pn_3 : plainName "com/example/bullyring/bullyring/core/clock/LamportClock" = true := by first | (simp [plainName, overriddenIn]; done) | decide +kernel
theorem pn_4 : plainName "com/example/bullyring/bullyring/core/mutex/RicartAgrawalaMessage" = true := by first | (simp [plainName, overriddenIn]; done) | decide +kernel
theorem d1_0 : decode method_2_code 0 = .ok (.lload_n 0, 1) := by decide +kernel
theorem d1_1 : decode method_2_code 1 = .ok (.ldc2_w 9, 3) := by decide +kernel
theorem d1_4 : decode method_2_code 4 = .ok (.land, 1) := by decide +kernel
theorem d1_5 : decode method_2_code 5 = .ok (.lstore_n 2, 1) := by decide +kernel
theorem d1_6 : decode method_2_code 6 = .ok (.lload_n 2, 1) := by decide +kernel
theorem d1_7 : decode method_2_code 7 = .ok (.lconst 0, 1) := by decide +kernel
theorem d1_8 : decode method_2_code 8 = .ok (.lcmp, 1) := by decide +kernel
theorem d1_9 : decode method_2_code 9 = .ok (.ifCond .ne 7, 3) := by decide +kernel
theorem d1_12 : decode method_2_code 12 = .ok (.lconst 1, 1) := by decide +kernel
theorem d1_13 : decode method_2_code 13 = .ok (.goto 4, 3) := by decide +kernel
theorem d1_16 : decode method_2_code 16 = .ok (.lload_n 2, 1) := by decide +kernel
theorem d1_17 : decode method_2_code 17 = .ok (.lreturn, 1) := by decide +kernel
set_option maxRecDepth 65536 in
set_option maxHeartbeats 40000000 in
theorem rmS (l : Launch) (Z : State) (a0 : Array Value) (hw : ∀ d ∈ tables_1, d.before a0 Z = true) (x : Int64) (h0 : Heap) :
    Con l Z h0 (⟨"com/example/bullyring/bullyring/core/mutex/RicartAgrawalaMessageNamesPinLaw", "stampOf", "(J)J"⟩ : MethodName) method_2_code 4 (some .long) ({ frames := 0, cells := 0, slots := 0, locals := 0 } : Room) #[(.long x)] (Pur (some (.long (own_stamp x))) h0) := by
  refine con_of (plainFor_of_name pn_0) (Ls := #[.val (.long x), .second, .unset, .unset]) (fun m => by first | (simp [entryFrame, mkF, argsToLocals, Value.category]; done) | rfl) ?_
  intro p e s m below meth c s₁ hx hZ hby hml hret hlk hnm hown X0 e0
  refine g_lloadN X0 hx (hb hby d1_0) (v := x) rfl (q := 1) rfl ?_
  refine g_ldcJ X0 hx hZ hown (hw _ (List.mem_of_getElem? (i := 4) rfl)) (hb hby d1_1) (q := 4) rfl ?_
  refine g_land X0 hx (hb hby d1_4) (z := (x &&& (9223372036854775807 : Int64))) rfl (q := 5) rfl ?_
  refine g_lstoreN X0 hx (hb hby d1_5) (L' := #[.val (.long x), .second, .val (.long (x &&& (9223372036854775807 : Int64))), .second]) rfl (q := 6) rfl ?_
  refine g_lloadN X0 hx (hb hby d1_6) (v := (x &&& (9223372036854775807 : Int64))) rfl (q := 7) rfl ?_
  refine g_lconst X0 hx (hb hby d1_7) (n := (0 : Int64)) (by decide) (q := 8) rfl ?_
  refine g_lcmp X0 hx (hb hby d1_8) (z := (lcmpW (x &&& (9223372036854775807 : Int64)) (0 : Int64))) rfl (q := 9) rfl ?_
  refine g_if_ne X0 hx (hb hby d1_9) (by decide) (q := 16) (by decide) (q2 := 12) rfl (fun hb9 => ?_) (fun hb9 => ?_)
  · refine g_lloadN X0 hx (hb hby d1_16) (v := (x &&& (9223372036854775807 : Int64))) rfl (q := 17) rfl ?_
    exact g_retJ X0 hx hret hlk (hb hby d1_17) ⟨(by rw [own_stamp, if_neg (fun q => hb9 ((lw_eq _ _).mpr q))]), rfl, e0⟩ (Nat.le_of_ble_eq_true rfl) (Nat.le_of_ble_eq_true rfl)
  · refine g_lconst X0 hx (hb hby d1_12) (n := (1 : Int64)) (by decide) (q := 13) rfl ?_
    refine g_goto X0 hx (hb hby d1_13) (by decide) (q := 17) (by decide) ?_
    exact g_retJ X0 hx hret hlk (hb hby d1_17) ⟨(by rw [own_stamp, if_pos ((lw_eq _ _).mp hb9)]), rfl, e0⟩ (Nat.le_of_ble_eq_true rfl) (Nat.le_of_ble_eq_true rfl)
theorem d3_0 : decode jdk_30_method_1_code 0 = .ok (.aload_n 0, 1) := by decide +kernel
theorem d3_1 : decode jdk_30_method_1_code 1 = .ok (.invokespecial 1, 3) := by decide +kernel
theorem d3_4 : decode jdk_30_method_1_code 4 = .ok (.return_, 1) := by decide +kernel
set_option maxRecDepth 65536 in
set_option maxHeartbeats 40000000 in
theorem rmR (l : Launch) (Z : State) (a0 : Array Value) (hw : ∀ d ∈ tables_1, d.before a0 Z = true) (a : Addr) (h0 : Heap) :
    Con l Z h0 (⟨"java/lang/Record", "<init>", "()V"⟩ : MethodName) jdk_30_method_1_code 1 none ({ frames := 1, cells := 0, slots := 0, locals := 12 } : Room) #[(.ref a)] (Pur none h0) := by
  refine con_of (plainFor_of_name pn_1) (Ls := #[.val (.ref a)]) (fun m => by first | (simp [entryFrame, mkF, argsToLocals, Value.category]; done) | rfl) ?_
  intro p e s m below meth c s₁ hx hZ hby hml hret hlk hnm hown X0 e0
  refine g_aloadN X0 hx (hb hby d3_0) (v := (.ref a)) rfl rfl (q := 1) rfl ?_
  refine g_initO X0 hx hZ hown (hw _ (List.mem_of_getElem? (i := 19) rfl)) (hw _ (List.mem_of_getElem? (i := 20) rfl)) (hw _ (List.mem_of_getElem? (i := 21) rfl)) e0 (by exact hml.symm) (hb hby d3_1) (Nat.le_of_ble_eq_true rfl) (Nat.le_of_ble_eq_true rfl) (q := 4) rfl fun T1 X1 e1 => ?_
  exact g_retV X1 hx hret hlk (hb hby d3_4) ⟨rfl, rfl, e1⟩ (Nat.le_of_ble_eq_true rfl) (Nat.le_of_ble_eq_true rfl)
theorem d5_0 : decode jdk_31_method_11_code 0 = .ok (.aload_n 0, 1) := by decide +kernel
theorem d5_1 : decode jdk_31_method_11_code 1 = .ok (.ifnonnull 12, 3) := by decide +kernel
theorem d5_13 : decode jdk_31_method_11_code 13 = .ok (.aload_n 0, 1) := by decide +kernel
theorem d5_14 : decode jdk_31_method_11_code 14 = .ok (.areturn, 1) := by decide +kernel
set_option maxRecDepth 65536 in
set_option maxHeartbeats 40000000 in
theorem rmN (l : Launch) (Z : State) (a0 : Array Value) (hw : ∀ d ∈ tables_1, d.before a0 Z = true) (a b : Addr) (h0 : Heap) :
    Con l Z h0 (⟨"java/util/Objects", "requireNonNull", "(Ljava/lang/Object;Ljava/lang/String;)Ljava/lang/Object;"⟩ : MethodName) jdk_31_method_11_code 2 (some (.object "java/lang/Object")) ({ frames := 0, cells := 0, slots := 0, locals := 0 } : Room) #[(.ref a), (.ref b)] (Pur (some (.ref a)) h0) := by
  refine con_of (plainFor_of_name pn_2) (Ls := #[.val (.ref a), .val (.ref b)]) (fun m => by first | (simp [entryFrame, mkF, argsToLocals, Value.category]; done) | rfl) ?_
  intro p e s m below meth c s₁ hx hZ hby hml hret hlk hnm hown X0 e0
  refine g_aloadN X0 hx (hb hby d5_0) (v := (.ref a)) rfl rfl (q := 1) rfl ?_
  refine g_ifnonnullY X0 hx (hb hby d5_1) (by decide) (q := 13) (by decide) ?_
  refine g_aloadN X0 hx (hb hby d5_13) (v := (.ref a)) rfl rfl (q := 14) rfl ?_
  exact g_retA X0 hx hret hlk (hb hby d5_14) rfl rfl rfl ⟨rfl, rfl, e0⟩ (Nat.le_of_ble_eq_true rfl) (Nat.le_of_ble_eq_true rfl)
theorem d6_0 : decode prog_2_method_2_code 0 = .ok (.lload_n 0, 1) := by decide +kernel
theorem d6_1 : decode prog_2_method_2_code 1 = .ok (.lconst 1, 1) := by decide +kernel
theorem d6_2 : decode prog_2_method_2_code 2 = .ok (.lcmp, 1) := by decide +kernel
theorem d6_3 : decode prog_2_method_2_code 3 = .ok (.ifCond .ge 17, 3) := by decide +kernel
theorem d6_20 : decode prog_2_method_2_code 20 = .ok (.return_, 1) := by decide +kernel
set_option maxRecDepth 65536 in
set_option maxHeartbeats 40000000 in
theorem rmQ (l : Launch) (Z : State) (a0 : Array Value) (hw : ∀ d ∈ tables_1, d.before a0 Z = true) (x : Int64) (hge : ¬ x < (1 : Int64)) (h0 : Heap) :
    Con l Z h0 (⟨"com/example/bullyring/bullyring/core/clock/LamportClock", "requireStamp", "(J)V"⟩ : MethodName) prog_2_method_2_code 2 none ({ frames := 0, cells := 0, slots := 0, locals := 0 } : Room) #[(.long x)] (Pur none h0) := by
  refine con_of (plainFor_of_name pn_3) (Ls := #[.val (.long x), .second]) (fun m => by first | (simp [entryFrame, mkF, argsToLocals, Value.category]; done) | rfl) ?_
  intro p e s m below meth c s₁ hx hZ hby hml hret hlk hnm hown X0 e0
  refine g_lloadN X0 hx (hb hby d6_0) (v := x) rfl (q := 1) rfl ?_
  refine g_lconst X0 hx (hb hby d6_1) (n := (1 : Int64)) (by decide) (q := 2) rfl ?_
  refine g_lcmp X0 hx (hb hby d6_2) (z := (lcmpW x (1 : Int64))) rfl (q := 3) rfl ?_
  refine g_if_ge X0 hx (hb hby d6_3) (by decide) (q := 20) (by decide) (q2 := 6) rfl (fun hb3 => ?_) (fun hb3 => absurd hb3 (fun q => hge ((lw_lt _ _).mp q)))
  exact g_retV X0 hx hret hlk (hb hby d6_20) ⟨rfl, rfl, e0⟩ (Nat.le_of_ble_eq_true rfl) (Nat.le_of_ble_eq_true rfl)
theorem d2_0 : decode prog_31_method_1_code 0 = .ok (.aload_n 0, 1) := by decide +kernel
theorem d2_1 : decode prog_31_method_1_code 1 = .ok (.invokespecial 1, 3) := by decide +kernel
theorem d2_4 : decode prog_31_method_1_code 4 = .ok (.aload_n 1, 1) := by decide +kernel
theorem d2_5 : decode prog_31_method_1_code 5 = .ok (.ldc 7, 2) := by decide +kernel
theorem d2_7 : decode prog_31_method_1_code 7 = .ok (.invokestatic 9, 3) := by decide +kernel
theorem d2_10 : decode prog_31_method_1_code 10 = .ok (.pop, 1) := by decide +kernel
theorem d2_11 : decode prog_31_method_1_code 11 = .ok (.lload_n 2, 1) := by decide +kernel
theorem d2_12 : decode prog_31_method_1_code 12 = .ok (.invokestatic 15, 3) := by decide +kernel
theorem d2_15 : decode prog_31_method_1_code 15 = .ok (.lload 4, 2) := by decide +kernel
theorem d2_17 : decode prog_31_method_1_code 17 = .ok (.invokestatic 15, 3) := by decide +kernel
theorem d2_20 : decode prog_31_method_1_code 20 = .ok (.aload_n 1, 1) := by decide +kernel
theorem d2_21 : decode prog_31_method_1_code 21 = .ok (.getstatic 21, 3) := by decide +kernel
theorem d2_24 : decode prog_31_method_1_code 24 = .ok (.if_acmp .ne 26, 3) := by decide +kernel
theorem d2_27 : decode prog_31_method_1_code 27 = .ok (.lload 4, 2) := by decide +kernel
theorem d2_29 : decode prog_31_method_1_code 29 = .ok (.lload_n 2, 1) := by decide +kernel
theorem d2_30 : decode prog_31_method_1_code 30 = .ok (.lcmp, 1) := by decide +kernel
theorem d2_31 : decode prog_31_method_1_code 31 = .ok (.ifCond .eq 19, 3) := by decide +kernel
theorem d2_50 : decode prog_31_method_1_code 50 = .ok (.aload_n 0, 1) := by decide +kernel
theorem d2_51 : decode prog_31_method_1_code 51 = .ok (.aload_n 1, 1) := by decide +kernel
theorem d2_52 : decode prog_31_method_1_code 52 = .ok (.putfield 36, 3) := by decide +kernel
theorem d2_55 : decode prog_31_method_1_code 55 = .ok (.aload_n 0, 1) := by decide +kernel
theorem d2_56 : decode prog_31_method_1_code 56 = .ok (.lload_n 2, 1) := by decide +kernel
theorem d2_57 : decode prog_31_method_1_code 57 = .ok (.putfield 40, 3) := by decide +kernel
theorem d2_60 : decode prog_31_method_1_code 60 = .ok (.aload_n 0, 1) := by decide +kernel
theorem d2_61 : decode prog_31_method_1_code 61 = .ok (.lload 4, 2) := by decide +kernel
theorem d2_63 : decode prog_31_method_1_code 63 = .ok (.putfield 44, 3) := by decide +kernel
theorem d2_66 : decode prog_31_method_1_code 66 = .ok (.aload_n 0, 1) := by decide +kernel
theorem d2_67 : decode prog_31_method_1_code 67 = .ok (.lload 6, 2) := by decide +kernel
theorem d2_69 : decode prog_31_method_1_code 69 = .ok (.putfield 47, 3) := by decide +kernel
theorem d2_72 : decode prog_31_method_1_code 72 = .ok (.return_, 1) := by decide +kernel
set_option maxRecDepth 65536 in
set_option maxHeartbeats 40000000 in
theorem rmC (l : Launch) (Z : State) (a0 : Array Value) (hw : ∀ d ∈ tables_1, d.before a0 Z = true) (b t wq : Addr) (sa sb ic : Int64) (hsa : ¬ sa < (1 : Int64)) (hsb : ¬ sb < (1 : Int64)) (hts : t = wq → sb = sa) (h0 : Heap) (n0 : Nat) (hge : n0 ≤ b) (SQ : Sta Z h0 "com/example/bullyring/bullyring/core/mutex/RicartAgrawalaMessage$Type" "REQUEST" "Lcom/example/bullyring/bullyring/core/mutex/RicartAgrawalaMessage$Type;" (.ref wq)) (E0 : Exa Z h0 b "com/example/bullyring/bullyring/core/mutex/RicartAgrawalaMessage") (F0 : Fld Z h0 b "com/example/bullyring/bullyring/core/mutex/RicartAgrawalaMessage" "type" "Lcom/example/bullyring/bullyring/core/mutex/RicartAgrawalaMessage$Type;" .null) (F1 : Fld Z h0 b "com/example/bullyring/bullyring/core/mutex/RicartAgrawalaMessage" "stamp" "J" (.long (0 : Int64))) (F2 : Fld Z h0 b "com/example/bullyring/bullyring/core/mutex/RicartAgrawalaMessage" "requestStamp" "J" (.long (0 : Int64))) (F3 : Fld Z h0 b "com/example/bullyring/bullyring/core/mutex/RicartAgrawalaMessage" "incarnation" "J" (.long (0 : Int64))) :
    ConW l Z h0 (⟨"com/example/bullyring/bullyring/core/mutex/RicartAgrawalaMessage", "<init>", "(Lcom/example/bullyring/bullyring/core/mutex/RicartAgrawalaMessage$Type;JJJ)V"⟩ : MethodName) prog_31_method_1_code 8 none ({ frames := 2, cells := 2, slots := 20, locals := 24 } : Room) #[(.ref b), (.ref t), (.long sa), (.long sb), (.long ic)] (fun v h L => v = none ∧ Fr n0 L ∧ Keep h0 h [b] ∧ Exa Z h b "com/example/bullyring/bullyring/core/mutex/RicartAgrawalaMessage" ∧ Fld Z h b "com/example/bullyring/bullyring/core/mutex/RicartAgrawalaMessage" "requestStamp" "J" (.long sb) ∧ Fld Z h b "com/example/bullyring/bullyring/core/mutex/RicartAgrawalaMessage" "incarnation" "J" (.long ic)) := by
  refine con_ofW (plainFor_of_name pn_4) (Ls := #[.val (.ref b), .val (.ref t), .val (.long sa), .second, .val (.long sb), .second, .val (.long ic), .second]) (fun m => by first | (simp [entryFrame, mkF, argsToLocals, Value.category]; done) | rfl) ?_
  intro p e s m below meth c s₁ vm0 k0 hx hZ hby hml hret hlk hnm hown X0 e0 hS hk
  refine g_aloadN X0 hx (hb hby d2_0) (v := (.ref b)) rfl rfl (q := 1) rfl ?_
  refine g_callI X0 hx hZ hown rfl (hw _ (List.mem_of_getElem? (i := 14) rfl)) (hw _ (List.mem_of_getElem? (i := 15) rfl)) (hw _ (List.mem_of_getElem? (i := 18) rfl)) (hw _ (List.mem_of_getElem? (i := 17) rfl)) (by decide) e0 (b := b) (rmR l Z a0 hw b h0) (by exact hml.symm) (argsL := []) (rest := []) rfl rfl pd_0 rfl (Nat.le_of_ble_eq_true rfl) (Nat.le_of_ble_eq_true rfl) (Nat.le_of_ble_eq_true rfl) (Nat.le_of_ble_eq_true rfl) (hb hby d2_1) (q := 4) rfl (g_pure rfl rfl fun T2 X2 e2 => ?_)
  show Go p e below _ (T2.setTop (mkF m 4 #[.val (.ref b), .val (.ref t), .val (.long sa), .second, .val (.long sb), .second, .val (.long ic), .second] []))
  refine g_aloadN X2 hx (hb hby d2_4) (v := (.ref t)) rfl rfl (q := 5) rfl ?_
  refine g_ldcS X2 hx hZ hown (hw _ (List.mem_of_getElem? (i := 22) rfl)) (own_strA hw) e2 hS hk (hb hby d2_5) (n := 16) (by decide) (by decide) (Nat.le_of_ble_eq_true rfl) (Nat.le_of_ble_eq_true rfl) (q := 7) rfl fun b3 T3 h3 k3 X3 e3 E3 hS3 hk3 hZ3 hown3 => ?_
  have kp_3 := (Keep.refl h0 [b]).ext E3
  have f4 := (E0.ext E3)
  have f5 := (F0.ext E3)
  have f6 := (F1.ext E3)
  have f7 := (F2.ext E3)
  have f8 := (F3.ext E3)
  have f9 := (SQ.ext E3)
  refine g_callS X3 hx hZ3 hown3 (hw _ (List.mem_of_getElem? (i := 30) rfl)) (hw _ (List.mem_of_getElem? (i := 31) rfl)) (hw _ (List.mem_of_getElem? (i := 32) rfl)) (hw _ (List.mem_of_getElem? (i := 33) rfl)) (by decide) e3 (rmN l Z a0 hw t b3 h3) (by exact hml.symm) (argsL := [(.ref t), (.ref b3)]) (rest := []) rfl rfl pd_1 rfl (Nat.le_of_ble_eq_true rfl) (Nat.le_of_ble_eq_true rfl) (Nat.le_of_ble_eq_true rfl) (Nat.le_of_ble_eq_true rfl) (hb hby d2_7) (q := 10) rfl (g_pure rfl rfl fun T10 X10 e10 => ?_)
  show Go p e below _ (T10.setTop (mkF m 10 #[.val (.ref b), .val (.ref t), .val (.long sa), .second, .val (.long sb), .second, .val (.long ic), .second] [(.ref t)]))
  refine g_pop X10 hx (hb hby d2_10) rfl (q := 11) rfl ?_
  refine g_lloadN X10 hx (hb hby d2_11) (v := sa) rfl (q := 12) rfl ?_
  refine g_callS X10 hx hZ3 hown3 (hw _ (List.mem_of_getElem? (i := 34) rfl)) (hw _ (List.mem_of_getElem? (i := 35) rfl)) (hw _ (List.mem_of_getElem? (i := 36) rfl)) (hw _ (List.mem_of_getElem? (i := 37) rfl)) (by decide) e10 (rmQ l Z a0 hw sa hsa h3) (by exact hml.symm) (argsL := [(.long sa)]) (rest := []) rfl rfl pd_2 rfl (Nat.le_of_ble_eq_true rfl) (Nat.le_of_ble_eq_true rfl) (Nat.le_of_ble_eq_true rfl) (Nat.le_of_ble_eq_true rfl) (hb hby d2_12) (q := 15) rfl (g_pure rfl rfl fun T11 X11 e11 => ?_)
  show Go p e below _ (T11.setTop (mkF m 15 #[.val (.ref b), .val (.ref t), .val (.long sa), .second, .val (.long sb), .second, .val (.long ic), .second] []))
  refine g_lload X11 hx (hb hby d2_15) (v := sb) rfl (q := 17) rfl ?_
  refine g_callS X11 hx hZ3 hown3 (hw _ (List.mem_of_getElem? (i := 34) rfl)) (hw _ (List.mem_of_getElem? (i := 35) rfl)) (hw _ (List.mem_of_getElem? (i := 36) rfl)) (hw _ (List.mem_of_getElem? (i := 37) rfl)) (by decide) e11 (rmQ l Z a0 hw sb hsb h3) (by exact hml.symm) (argsL := [(.long sb)]) (rest := []) rfl rfl pd_2 rfl (Nat.le_of_ble_eq_true rfl) (Nat.le_of_ble_eq_true rfl) (Nat.le_of_ble_eq_true rfl) (Nat.le_of_ble_eq_true rfl) (hb hby d2_17) (q := 20) rfl (g_pure rfl rfl fun T12 X12 e12 => ?_)
  show Go p e below _ (T12.setTop (mkF m 20 #[.val (.ref b), .val (.ref t), .val (.long sa), .second, .val (.long sb), .second, .val (.long ic), .second] []))
  refine g_aloadN X12 hx (hb hby d2_20) (v := (.ref t)) rfl rfl (q := 21) rfl ?_
  refine g_getS X12 hx hZ3 hown3 (hw _ (List.mem_of_getElem? (i := 38) rfl)) Via.refl e12 f9 (hb hby d2_21) (q := 24) rfl fun T13 X13 e13 => ?_
  refine g_acmpNe X13 hx rfl rfl (hb hby d2_24) (by decide) (q := 50) (by decide) (q2 := 27) rfl (fun hb24 => ?_) (fun hb24 => ?_)
  · refine g_aloadN X13 hx (hb hby d2_50) (v := (.ref b)) rfl rfl (q := 51) rfl ?_
    refine g_aloadN X13 hx (hb hby d2_51) (v := (.ref t)) rfl rfl (q := 52) rfl ?_
    refine g_putF X13 hx hZ3 hown3 (hw _ (List.mem_of_getElem? (i := 39) rfl)) Via.refl e13 f5 f4 (Or.inr ⟨(hw _ (List.mem_of_getElem? (i := 40) rfl)), rfl, hnm⟩) (hw _ (List.mem_of_getElem? (i := 9) rfl)) (ty := (.object "com/example/bullyring/bullyring/core/mutex/RicartAgrawalaMessage$Type")) (by decide) rfl rfl (hb hby d2_52) (q := 55) rfl fun T14 h14 X14 e14 W14 => ?_
    have fw14 := f5.same W14
    have N14 := Fr.snoc X14 (Fr.nil n0) hge
    have hk_14 := Nat.le_trans hk3 (Keep.of_wr W14).1
    have kp_14 := kp_3.wr W14 (Or.inl (List.mem_of_getElem? (i := 0) rfl))
    have f15 := (f4.wr W14)
    have f16 := (f6.other W14 (Or.inr (slot_ne (Or.inr (hw _ (List.mem_of_getElem? (i := 42) rfl))) (Or.inr (hw _ (List.mem_of_getElem? (i := 40) rfl))) (by decide) (t := .long) (t' := (.object "com/example/bullyring/bullyring/core/mutex/RicartAgrawalaMessage$Type")) (by decide) (by decide))))
    have f17 := (f7.other W14 (Or.inr (slot_ne (Or.inr (hw _ (List.mem_of_getElem? (i := 44) rfl))) (Or.inr (hw _ (List.mem_of_getElem? (i := 40) rfl))) (by decide) (t := .long) (t' := (.object "com/example/bullyring/bullyring/core/mutex/RicartAgrawalaMessage$Type")) (by decide) (by decide))))
    have f18 := (f8.other W14 (Or.inr (slot_ne (Or.inr (hw _ (List.mem_of_getElem? (i := 46) rfl))) (Or.inr (hw _ (List.mem_of_getElem? (i := 40) rfl))) (by decide) (t := .long) (t' := (.object "com/example/bullyring/bullyring/core/mutex/RicartAgrawalaMessage$Type")) (by decide) (by decide))))
    have f19 := (f9.wr W14)
    refine g_aloadN X14 hx (hb hby d2_55) (v := (.ref b)) rfl rfl (q := 56) rfl ?_
    refine g_lloadN X14 hx (hb hby d2_56) (v := sa) rfl (q := 57) rfl ?_
    refine g_putF X14 hx hZ3 hown3 (hw _ (List.mem_of_getElem? (i := 41) rfl)) Via.refl e14 f16 f15 (Or.inr ⟨(hw _ (List.mem_of_getElem? (i := 42) rfl)), rfl, hnm⟩) (hw _ (List.mem_of_getElem? (i := 9) rfl)) (ty := .long) (by decide) rfl rfl (hb hby d2_57) (q := 60) rfl fun T20 h20 X20 e20 W20 => ?_
    have fw20 := f16.same W20
    have N20 := Fr.snoc X20 N14 hge
    have hk_20 := Nat.le_trans hk_14 (Keep.of_wr W20).1
    have kp_20 := kp_14.wr W20 (Or.inl (List.mem_of_getElem? (i := 0) rfl))
    have f21 := (f15.wr W20)
    have f22 := (fw14.other W20 (Or.inr (slot_ne (Or.inr (hw _ (List.mem_of_getElem? (i := 40) rfl))) (Or.inr (hw _ (List.mem_of_getElem? (i := 42) rfl))) (by decide) (t := (.object "com/example/bullyring/bullyring/core/mutex/RicartAgrawalaMessage$Type")) (t' := .long) (by decide) (by decide))))
    have f23 := (f17.other W20 (Or.inr (slot_ne (Or.inr (hw _ (List.mem_of_getElem? (i := 44) rfl))) (Or.inr (hw _ (List.mem_of_getElem? (i := 42) rfl))) (by decide) (t := .long) (t' := .long) (by decide) (by decide))))
    have f24 := (f18.other W20 (Or.inr (slot_ne (Or.inr (hw _ (List.mem_of_getElem? (i := 46) rfl))) (Or.inr (hw _ (List.mem_of_getElem? (i := 42) rfl))) (by decide) (t := .long) (t' := .long) (by decide) (by decide))))
    have f25 := (f19.wr W20)
    refine g_aloadN X20 hx (hb hby d2_60) (v := (.ref b)) rfl rfl (q := 61) rfl ?_
    refine g_lload X20 hx (hb hby d2_61) (v := sb) rfl (q := 63) rfl ?_
    refine g_putF X20 hx hZ3 hown3 (hw _ (List.mem_of_getElem? (i := 43) rfl)) Via.refl e20 f23 f21 (Or.inr ⟨(hw _ (List.mem_of_getElem? (i := 44) rfl)), rfl, hnm⟩) (hw _ (List.mem_of_getElem? (i := 9) rfl)) (ty := .long) (by decide) rfl rfl (hb hby d2_63) (q := 66) rfl fun T26 h26 X26 e26 W26 => ?_
    have fw26 := f23.same W26
    have N26 := Fr.snoc X26 N20 hge
    have hk_26 := Nat.le_trans hk_20 (Keep.of_wr W26).1
    have kp_26 := kp_20.wr W26 (Or.inl (List.mem_of_getElem? (i := 0) rfl))
    have f27 := (f21.wr W26)
    have f28 := (f22.other W26 (Or.inr (slot_ne (Or.inr (hw _ (List.mem_of_getElem? (i := 40) rfl))) (Or.inr (hw _ (List.mem_of_getElem? (i := 44) rfl))) (by decide) (t := (.object "com/example/bullyring/bullyring/core/mutex/RicartAgrawalaMessage$Type")) (t' := .long) (by decide) (by decide))))
    have f29 := (fw20.other W26 (Or.inr (slot_ne (Or.inr (hw _ (List.mem_of_getElem? (i := 42) rfl))) (Or.inr (hw _ (List.mem_of_getElem? (i := 44) rfl))) (by decide) (t := .long) (t' := .long) (by decide) (by decide))))
    have f30 := (f24.other W26 (Or.inr (slot_ne (Or.inr (hw _ (List.mem_of_getElem? (i := 46) rfl))) (Or.inr (hw _ (List.mem_of_getElem? (i := 44) rfl))) (by decide) (t := .long) (t' := .long) (by decide) (by decide))))
    have f31 := (f25.wr W26)
    refine g_aloadN X26 hx (hb hby d2_66) (v := (.ref b)) rfl rfl (q := 67) rfl ?_
    refine g_lload X26 hx (hb hby d2_67) (v := ic) rfl (q := 69) rfl ?_
    refine g_putF X26 hx hZ3 hown3 (hw _ (List.mem_of_getElem? (i := 45) rfl)) Via.refl e26 f30 f27 (Or.inr ⟨(hw _ (List.mem_of_getElem? (i := 46) rfl)), rfl, hnm⟩) (hw _ (List.mem_of_getElem? (i := 9) rfl)) (ty := .long) (by decide) rfl rfl (hb hby d2_69) (q := 72) rfl fun T32 h32 X32 e32 W32 => ?_
    have fw32 := f30.same W32
    have N32 := Fr.snoc X32 N26 hge
    have hk_32 := Nat.le_trans hk_26 (Keep.of_wr W32).1
    have kp_32 := kp_26.wr W32 (Or.inl (List.mem_of_getElem? (i := 0) rfl))
    have f33 := (f27.wr W32)
    have f34 := (f28.other W32 (Or.inr (slot_ne (Or.inr (hw _ (List.mem_of_getElem? (i := 40) rfl))) (Or.inr (hw _ (List.mem_of_getElem? (i := 46) rfl))) (by decide) (t := (.object "com/example/bullyring/bullyring/core/mutex/RicartAgrawalaMessage$Type")) (t' := .long) (by decide) (by decide))))
    have f35 := (f29.other W32 (Or.inr (slot_ne (Or.inr (hw _ (List.mem_of_getElem? (i := 42) rfl))) (Or.inr (hw _ (List.mem_of_getElem? (i := 46) rfl))) (by decide) (t := .long) (t' := .long) (by decide) (by decide))))
    have f36 := (fw26.other W32 (Or.inr (slot_ne (Or.inr (hw _ (List.mem_of_getElem? (i := 44) rfl))) (Or.inr (hw _ (List.mem_of_getElem? (i := 46) rfl))) (by decide) (t := .long) (t' := .long) (by decide) (by decide))))
    have f37 := (f31.wr W32)
    exact g_retVW X32 hS3 (by rw [e32]; exact hk_32) hx hret hlk (hb hby d2_72) ⟨rfl, N32, by rw [e32]; exact kp_32, by rw [e32]; exact f33, by rw [e32]; exact f36, by rw [e32]; exact fw32⟩ (Nat.le_of_ble_eq_true rfl) (Nat.le_of_ble_eq_true rfl)
  · refine g_lload X13 hx (hb hby d2_27) (v := sb) rfl (q := 29) rfl ?_
    refine g_lloadN X13 hx (hb hby d2_29) (v := sa) rfl (q := 30) rfl ?_
    refine g_lcmp X13 hx (hb hby d2_30) (z := (lcmpW sb sa)) rfl (q := 31) rfl ?_
    refine g_if_eq X13 hx (hb hby d2_31) (by decide) (q := 50) (by decide) (q2 := 34) rfl (fun hb31 => ?_) (fun hb31 => absurd hb31 (not_not_intro ((lw_eq _ _).mpr (hts (Value.ref.inj hb24)))))
    refine g_aloadN X13 hx (hb hby d2_50) (v := (.ref b)) rfl rfl (q := 51) rfl ?_
    refine g_aloadN X13 hx (hb hby d2_51) (v := (.ref t)) rfl rfl (q := 52) rfl ?_
    refine g_putF X13 hx hZ3 hown3 (hw _ (List.mem_of_getElem? (i := 39) rfl)) Via.refl e13 f5 f4 (Or.inr ⟨(hw _ (List.mem_of_getElem? (i := 40) rfl)), rfl, hnm⟩) (hw _ (List.mem_of_getElem? (i := 9) rfl)) (ty := (.object "com/example/bullyring/bullyring/core/mutex/RicartAgrawalaMessage$Type")) (by decide) rfl rfl (hb hby d2_52) (q := 55) rfl fun T38 h38 X38 e38 W38 => ?_
    have fw38 := f5.same W38
    have N38 := Fr.snoc X38 (Fr.nil n0) hge
    have hk_38 := Nat.le_trans hk3 (Keep.of_wr W38).1
    have kp_38 := kp_3.wr W38 (Or.inl (List.mem_of_getElem? (i := 0) rfl))
    have f39 := (f4.wr W38)
    have f40 := (f6.other W38 (Or.inr (slot_ne (Or.inr (hw _ (List.mem_of_getElem? (i := 42) rfl))) (Or.inr (hw _ (List.mem_of_getElem? (i := 40) rfl))) (by decide) (t := .long) (t' := (.object "com/example/bullyring/bullyring/core/mutex/RicartAgrawalaMessage$Type")) (by decide) (by decide))))
    have f41 := (f7.other W38 (Or.inr (slot_ne (Or.inr (hw _ (List.mem_of_getElem? (i := 44) rfl))) (Or.inr (hw _ (List.mem_of_getElem? (i := 40) rfl))) (by decide) (t := .long) (t' := (.object "com/example/bullyring/bullyring/core/mutex/RicartAgrawalaMessage$Type")) (by decide) (by decide))))
    have f42 := (f8.other W38 (Or.inr (slot_ne (Or.inr (hw _ (List.mem_of_getElem? (i := 46) rfl))) (Or.inr (hw _ (List.mem_of_getElem? (i := 40) rfl))) (by decide) (t := .long) (t' := (.object "com/example/bullyring/bullyring/core/mutex/RicartAgrawalaMessage$Type")) (by decide) (by decide))))
    have f43 := (f9.wr W38)
    refine g_aloadN X38 hx (hb hby d2_55) (v := (.ref b)) rfl rfl (q := 56) rfl ?_
    refine g_lloadN X38 hx (hb hby d2_56) (v := sa) rfl (q := 57) rfl ?_
    refine g_putF X38 hx hZ3 hown3 (hw _ (List.mem_of_getElem? (i := 41) rfl)) Via.refl e38 f40 f39 (Or.inr ⟨(hw _ (List.mem_of_getElem? (i := 42) rfl)), rfl, hnm⟩) (hw _ (List.mem_of_getElem? (i := 9) rfl)) (ty := .long) (by decide) rfl rfl (hb hby d2_57) (q := 60) rfl fun T44 h44 X44 e44 W44 => ?_
    have fw44 := f40.same W44
    have N44 := Fr.snoc X44 N38 hge
    have hk_44 := Nat.le_trans hk_38 (Keep.of_wr W44).1
    have kp_44 := kp_38.wr W44 (Or.inl (List.mem_of_getElem? (i := 0) rfl))
    have f45 := (f39.wr W44)
    have f46 := (fw38.other W44 (Or.inr (slot_ne (Or.inr (hw _ (List.mem_of_getElem? (i := 40) rfl))) (Or.inr (hw _ (List.mem_of_getElem? (i := 42) rfl))) (by decide) (t := (.object "com/example/bullyring/bullyring/core/mutex/RicartAgrawalaMessage$Type")) (t' := .long) (by decide) (by decide))))
    have f47 := (f41.other W44 (Or.inr (slot_ne (Or.inr (hw _ (List.mem_of_getElem? (i := 44) rfl))) (Or.inr (hw _ (List.mem_of_getElem? (i := 42) rfl))) (by decide) (t := .long) (t' := .long) (by decide) (by decide))))
    have f48 := (f42.other W44 (Or.inr (slot_ne (Or.inr (hw _ (List.mem_of_getElem? (i := 46) rfl))) (Or.inr (hw _ (List.mem_of_getElem? (i := 42) rfl))) (by decide) (t := .long) (t' := .long) (by decide) (by decide))))
    have f49 := (f43.wr W44)
    refine g_aloadN X44 hx (hb hby d2_60) (v := (.ref b)) rfl rfl (q := 61) rfl ?_
    refine g_lload X44 hx (hb hby d2_61) (v := sb) rfl (q := 63) rfl ?_
    refine g_putF X44 hx hZ3 hown3 (hw _ (List.mem_of_getElem? (i := 43) rfl)) Via.refl e44 f47 f45 (Or.inr ⟨(hw _ (List.mem_of_getElem? (i := 44) rfl)), rfl, hnm⟩) (hw _ (List.mem_of_getElem? (i := 9) rfl)) (ty := .long) (by decide) rfl rfl (hb hby d2_63) (q := 66) rfl fun T50 h50 X50 e50 W50 => ?_
    have fw50 := f47.same W50
    have N50 := Fr.snoc X50 N44 hge
    have hk_50 := Nat.le_trans hk_44 (Keep.of_wr W50).1
    have kp_50 := kp_44.wr W50 (Or.inl (List.mem_of_getElem? (i := 0) rfl))
    have f51 := (f45.wr W50)
    have f52 := (f46.other W50 (Or.inr (slot_ne (Or.inr (hw _ (List.mem_of_getElem? (i := 40) rfl))) (Or.inr (hw _ (List.mem_of_getElem? (i := 44) rfl))) (by decide) (t := (.object "com/example/bullyring/bullyring/core/mutex/RicartAgrawalaMessage$Type")) (t' := .long) (by decide) (by decide))))
    have f53 := (fw44.other W50 (Or.inr (slot_ne (Or.inr (hw _ (List.mem_of_getElem? (i := 42) rfl))) (Or.inr (hw _ (List.mem_of_getElem? (i := 44) rfl))) (by decide) (t := .long) (t' := .long) (by decide) (by decide))))
    have f54 := (f48.other W50 (Or.inr (slot_ne (Or.inr (hw _ (List.mem_of_getElem? (i := 46) rfl))) (Or.inr (hw _ (List.mem_of_getElem? (i := 44) rfl))) (by decide) (t := .long) (t' := .long) (by decide) (by decide))))
    have f55 := (f49.wr W50)
    refine g_aloadN X50 hx (hb hby d2_66) (v := (.ref b)) rfl rfl (q := 67) rfl ?_
    refine g_lload X50 hx (hb hby d2_67) (v := ic) rfl (q := 69) rfl ?_
    refine g_putF X50 hx hZ3 hown3 (hw _ (List.mem_of_getElem? (i := 45) rfl)) Via.refl e50 f54 f51 (Or.inr ⟨(hw _ (List.mem_of_getElem? (i := 46) rfl)), rfl, hnm⟩) (hw _ (List.mem_of_getElem? (i := 9) rfl)) (ty := .long) (by decide) rfl rfl (hb hby d2_69) (q := 72) rfl fun T56 h56 X56 e56 W56 => ?_
    have fw56 := f54.same W56
    have N56 := Fr.snoc X56 N50 hge
    have hk_56 := Nat.le_trans hk_50 (Keep.of_wr W56).1
    have kp_56 := kp_50.wr W56 (Or.inl (List.mem_of_getElem? (i := 0) rfl))
    have f57 := (f51.wr W56)
    have f58 := (f52.other W56 (Or.inr (slot_ne (Or.inr (hw _ (List.mem_of_getElem? (i := 40) rfl))) (Or.inr (hw _ (List.mem_of_getElem? (i := 46) rfl))) (by decide) (t := (.object "com/example/bullyring/bullyring/core/mutex/RicartAgrawalaMessage$Type")) (t' := .long) (by decide) (by decide))))
    have f59 := (f53.other W56 (Or.inr (slot_ne (Or.inr (hw _ (List.mem_of_getElem? (i := 42) rfl))) (Or.inr (hw _ (List.mem_of_getElem? (i := 46) rfl))) (by decide) (t := .long) (t' := .long) (by decide) (by decide))))
    have f60 := (fw50.other W56 (Or.inr (slot_ne (Or.inr (hw _ (List.mem_of_getElem? (i := 44) rfl))) (Or.inr (hw _ (List.mem_of_getElem? (i := 46) rfl))) (by decide) (t := .long) (t' := .long) (by decide) (by decide))))
    have f61 := (f55.wr W56)
    exact g_retVW X56 hS3 (by rw [e56]; exact hk_56) hx hret hlk (hb hby d2_72) ⟨rfl, N56, by rw [e56]; exact kp_56, by rw [e56]; exact f57, by rw [e56]; exact f60, by rw [e56]; exact fw56⟩ (Nat.le_of_ble_eq_true rfl) (Nat.le_of_ble_eq_true rfl)
theorem d7_0 : decode prog_31_method_4_code 0 = .ok (.aload_n 0, 1) := by decide +kernel
theorem d7_1 : decode prog_31_method_4_code 1 = .ok (.getfield 44, 3) := by decide +kernel
theorem d7_4 : decode prog_31_method_4_code 4 = .ok (.aload_n 1, 1) := by decide +kernel
theorem d7_5 : decode prog_31_method_4_code 5 = .ok (.getfield 44, 3) := by decide +kernel
theorem d7_8 : decode prog_31_method_4_code 8 = .ok (.lcmp, 1) := by decide +kernel
theorem d7_9 : decode prog_31_method_4_code 9 = .ok (.ifCond .ne 19, 3) := by decide +kernel
theorem d7_12 : decode prog_31_method_4_code 12 = .ok (.aload_n 0, 1) := by decide +kernel
theorem d7_13 : decode prog_31_method_4_code 13 = .ok (.getfield 47, 3) := by decide +kernel
theorem d7_16 : decode prog_31_method_4_code 16 = .ok (.aload_n 1, 1) := by decide +kernel
theorem d7_17 : decode prog_31_method_4_code 17 = .ok (.getfield 47, 3) := by decide +kernel
theorem d7_20 : decode prog_31_method_4_code 20 = .ok (.lcmp, 1) := by decide +kernel
theorem d7_21 : decode prog_31_method_4_code 21 = .ok (.ifCond .ne 7, 3) := by decide +kernel
theorem d7_24 : decode prog_31_method_4_code 24 = .ok (.iconst 1, 1) := by decide +kernel
theorem d7_25 : decode prog_31_method_4_code 25 = .ok (.goto 4, 3) := by decide +kernel
theorem d7_28 : decode prog_31_method_4_code 28 = .ok (.iconst 0, 1) := by decide +kernel
theorem d7_29 : decode prog_31_method_4_code 29 = .ok (.ireturn, 1) := by decide +kernel
set_option maxRecDepth 65536 in
set_option maxHeartbeats 40000000 in
theorem rmNm (l : Launch) (Z : State) (a0 : Array Value) (hw : ∀ d ∈ tables_1, d.before a0 Z = true) (a1 a2 : Addr) (r1 i1 r2 i2 : Int64) (h0 : Heap) (F1 : Fld Z h0 a1 "com/example/bullyring/bullyring/core/mutex/RicartAgrawalaMessage" "requestStamp" "J" (.long r1)) (F2 : Fld Z h0 a1 "com/example/bullyring/bullyring/core/mutex/RicartAgrawalaMessage" "incarnation" "J" (.long i1)) (G1 : Fld Z h0 a2 "com/example/bullyring/bullyring/core/mutex/RicartAgrawalaMessage" "requestStamp" "J" (.long r2)) (G2 : Fld Z h0 a2 "com/example/bullyring/bullyring/core/mutex/RicartAgrawalaMessage" "incarnation" "J" (.long i2)) (r : Int32) (hr : (if r1 = r2 ∧ i1 = i2 then (1 : Int32) else 0) = r) :
    Con l Z h0 (⟨"com/example/bullyring/bullyring/core/mutex/RicartAgrawalaMessage", "names", "(Lcom/example/bullyring/bullyring/core/mutex/RicartAgrawalaMessage;)Z"⟩ : MethodName) prog_31_method_4_code 2 (some .boolean) ({ frames := 0, cells := 0, slots := 0, locals := 0 } : Room) #[(.ref a1), (.ref a2)] (Pur (some (.int r)) h0) := by
  refine con_of (plainFor_of_name pn_4) (Ls := #[.val (.ref a1), .val (.ref a2)]) (fun m => by first | (simp [entryFrame, mkF, argsToLocals, Value.category]; done) | rfl) ?_
  intro p e s m below meth c s₁ hx hZ hby hml hret hlk hnm hown X0 e0
  refine g_aloadN X0 hx (hb hby d7_0) (v := (.ref a1)) rfl rfl (q := 1) rfl ?_
  refine g_getF X0 hx hZ hown (hw _ (List.mem_of_getElem? (i := 43) rfl)) Via.refl e0 F1 (hb hby d7_1) (q := 4) rfl fun T62 X62 e62 => ?_
  refine g_aloadN X62 hx (hb hby d7_4) (v := (.ref a2)) rfl rfl (q := 5) rfl ?_
  refine g_getF X62 hx hZ hown (hw _ (List.mem_of_getElem? (i := 43) rfl)) Via.refl e62 G1 (hb hby d7_5) (q := 8) rfl fun T63 X63 e63 => ?_
  refine g_lcmp X63 hx (hb hby d7_8) (z := (lcmpW r1 r2)) rfl (q := 9) rfl ?_
  refine g_if_ne X63 hx (hb hby d7_9) (by decide) (q := 28) (by decide) (q2 := 12) rfl (fun hb9 => ?_) (fun hb9 => ?_)
  · refine g_iconst X63 hx (hb hby d7_28) (n := (0 : Int32)) (by decide) (q := 29) rfl ?_
    exact g_retB X63 hx hret hlk (hb hby d7_29) (by decide) ⟨(by rw [← hr, if_neg (fun q => hb9 ((lw_eq _ _).mpr q.1))]), rfl, e63⟩ (Nat.le_of_ble_eq_true rfl) (Nat.le_of_ble_eq_true rfl)
  · refine g_aloadN X63 hx (hb hby d7_12) (v := (.ref a1)) rfl rfl (q := 13) rfl ?_
    refine g_getF X63 hx hZ hown (hw _ (List.mem_of_getElem? (i := 45) rfl)) Via.refl e63 F2 (hb hby d7_13) (q := 16) rfl fun T64 X64 e64 => ?_
    refine g_aloadN X64 hx (hb hby d7_16) (v := (.ref a2)) rfl rfl (q := 17) rfl ?_
    refine g_getF X64 hx hZ hown (hw _ (List.mem_of_getElem? (i := 45) rfl)) Via.refl e64 G2 (hb hby d7_17) (q := 20) rfl fun T65 X65 e65 => ?_
    refine g_lcmp X65 hx (hb hby d7_20) (z := (lcmpW i1 i2)) rfl (q := 21) rfl ?_
    refine g_if_ne X65 hx (hb hby d7_21) (by decide) (q := 28) (by decide) (q2 := 24) rfl (fun hb21 => ?_) (fun hb21 => ?_)
    · refine g_iconst X65 hx (hb hby d7_28) (n := (0 : Int32)) (by decide) (q := 29) rfl ?_
      exact g_retB X65 hx hret hlk (hb hby d7_29) (by decide) ⟨(by rw [← hr, if_neg (fun q => hb21 ((lw_eq _ _).mpr q.2))]), rfl, e65⟩ (Nat.le_of_ble_eq_true rfl) (Nat.le_of_ble_eq_true rfl)
    · refine g_iconst X65 hx (hb hby d7_24) (n := (1 : Int32)) (by decide) (q := 25) rfl ?_
      refine g_goto X65 hx (hb hby d7_25) (by decide) (q := 29) (by decide) ?_
      exact g_retB X65 hx hret hlk (hb hby d7_29) (by decide) ⟨(by rw [← hr, if_pos ⟨(lw_eq _ _).mp hb9, (lw_eq _ _).mp hb21⟩]), rfl, e65⟩ (Nat.le_of_ble_eq_true rfl) (Nat.le_of_ble_eq_true rfl)
set_option maxRecDepth 65536 in
set_option maxHeartbeats 40000000 in
theorem rm0 (l : Launch) (Z : State) (a0 : Array Value) (hw : ∀ d ∈ tables_1, d.before a0 Z = true) (a b incR incX s6 : Int64) (fl : Int32) (wq wp : Addr) (h0 : Heap) (n0 : Nat) (Z0 : n0 ≤ h0.size) (nw : ¬ wq = wp) (SQ : Sta Z h0 "com/example/bullyring/bullyring/core/mutex/RicartAgrawalaMessage$Type" "REQUEST" "Lcom/example/bullyring/bullyring/core/mutex/RicartAgrawalaMessage$Type;" (.ref wq)) (SP : Sta Z h0 "com/example/bullyring/bullyring/core/mutex/RicartAgrawalaMessage$Type" "REPLY" "Lcom/example/bullyring/bullyring/core/mutex/RicartAgrawalaMessage$Type;" (.ref wp)) :
    ConW l Z h0 x code maxLocals ret room_1 #[(.long a), (.long b), (.long incR), (.long incX), (.long s6), (.int fl)] (fun v h L => v = some (.int 1) ∧ Fr n0 L) := by
  refine con_ofW (plainFor_of_name pn_0) (Ls := #[.val (.long a), .second, .val (.long b), .second, .val (.long incR), .second, .val (.long incX), .second, .val (.long s6), .second, .val (.int fl), .unset, .unset, .unset, .unset, .unset, .unset, .unset, .unset, .unset, .unset, .unset, .unset, .unset, .unset, .unset, .unset, .unset]) (fun m => by first | (simp [entryFrame, mkF, argsToLocals, Value.category, maxLocals]; done) | rfl) ?_
  intro p e s m below meth c s₁ vm0 k0 hx hZ hby hml hret hlk hnm hown X0 e0 hS hk
  refine g_lloadN X0 hx (hb hby at_0) (v := a) rfl (q := 1) rfl ?_
  refine g_callS X0 hx hZ hown (hw _ (List.mem_of_getElem? (i := 0) rfl)) (hw _ (List.mem_of_getElem? (i := 1) rfl)) (hw _ (List.mem_of_getElem? (i := 2) rfl)) (hw _ (List.mem_of_getElem? (i := 3) rfl)) (by decide) e0 (rmS l Z a0 hw a h0) (by exact hml.symm) (argsL := [(.long a)]) (rest := []) rfl rfl pd_3 rfl (Nat.le_of_ble_eq_true rfl) (Nat.le_of_ble_eq_true rfl) (Nat.le_of_ble_eq_true rfl) (Nat.le_of_ble_eq_true rfl) (hb hby at_1) (q := 4) rfl (g_pure rfl rfl fun T66 X66 e66 => ?_)
  show Go p e below _ (T66.setTop (mkF m 4 #[.val (.long a), .second, .val (.long b), .second, .val (.long incR), .second, .val (.long incX), .second, .val (.long s6), .second, .val (.int fl), .unset, .unset, .unset, .unset, .unset, .unset, .unset, .unset, .unset, .unset, .unset, .unset, .unset, .unset, .unset, .unset, .unset] [(.long (own_stamp a))]))
  refine g_lstore X66 hx (hb hby at_4) (L' := #[.val (.long a), .second, .val (.long b), .second, .val (.long incR), .second, .val (.long incX), .second, .val (.long s6), .second, .val (.int fl), .val (.long (own_stamp a)), .second, .unset, .unset, .unset, .unset, .unset, .unset, .unset, .unset, .unset, .unset, .unset, .unset, .unset, .unset, .unset]) rfl (q := 6) rfl ?_
  refine g_lloadN X66 hx (hb hby at_6) (v := b) rfl (q := 7) rfl ?_
  refine g_callS X66 hx hZ hown (hw _ (List.mem_of_getElem? (i := 0) rfl)) (hw _ (List.mem_of_getElem? (i := 1) rfl)) (hw _ (List.mem_of_getElem? (i := 2) rfl)) (hw _ (List.mem_of_getElem? (i := 3) rfl)) (by decide) e66 (rmS l Z a0 hw b h0) (by exact hml.symm) (argsL := [(.long b)]) (rest := []) rfl rfl pd_3 rfl (Nat.le_of_ble_eq_true rfl) (Nat.le_of_ble_eq_true rfl) (Nat.le_of_ble_eq_true rfl) (Nat.le_of_ble_eq_true rfl) (hb hby at_7) (q := 10) rfl (g_pure rfl rfl fun T67 X67 e67 => ?_)
  show Go p e below _ (T67.setTop (mkF m 10 #[.val (.long a), .second, .val (.long b), .second, .val (.long incR), .second, .val (.long incX), .second, .val (.long s6), .second, .val (.int fl), .val (.long (own_stamp a)), .second, .unset, .unset, .unset, .unset, .unset, .unset, .unset, .unset, .unset, .unset, .unset, .unset, .unset, .unset, .unset] [(.long (own_stamp b))]))
  refine g_lstore X67 hx (hb hby at_10) (L' := #[.val (.long a), .second, .val (.long b), .second, .val (.long incR), .second, .val (.long incX), .second, .val (.long s6), .second, .val (.int fl), .val (.long (own_stamp a)), .second, .val (.long (own_stamp b)), .second, .unset, .unset, .unset, .unset, .unset, .unset, .unset, .unset, .unset, .unset, .unset, .unset, .unset]) rfl (q := 12) rfl ?_
  refine g_iload X67 hx (hb hby at_12) (v := fl) rfl (q := 14) rfl ?_
  refine g_iconst X67 hx (hb hby at_14) (n := (1 : Int32)) (by decide) (q := 15) rfl ?_
  refine g_iand X67 hx (hb hby at_15) (z := (fl &&& (1 : Int32))) rfl (q := 16) rfl ?_
  refine g_if_eq X67 hx (hb hby at_16) (by decide) (q := 23) (by decide) (q2 := 19) rfl (fun hb16 => ?_) (fun hb16 => ?_)
  · refine g_iconst X67 hx (hb hby at_23) (n := (0 : Int32)) (by decide) (q := 24) rfl ?_
    refine g_istore X67 hx (hb hby at_24) (L' := #[.val (.long a), .second, .val (.long b), .second, .val (.long incR), .second, .val (.long incX), .second, .val (.long s6), .second, .val (.int fl), .val (.long (own_stamp a)), .second, .val (.long (own_stamp b)), .second, .val (.int (0 : Int32)), .unset, .unset, .unset, .unset, .unset, .unset, .unset, .unset, .unset, .unset, .unset, .unset]) rfl (q := 26) rfl ?_
    refine g_iload X67 hx (hb hby at_26) (v := fl) rfl (q := 28) rfl ?_
    refine g_iconst X67 hx (hb hby at_28) (n := (2 : Int32)) (by decide) (q := 29) rfl ?_
    refine g_iand X67 hx (hb hby at_29) (z := (fl &&& (2 : Int32))) rfl (q := 30) rfl ?_
    refine g_if_eq X67 hx (hb hby at_30) (by decide) (q := 37) (by decide) (q2 := 33) rfl (fun hb30 => ?_) (fun hb30 => ?_)
    · refine g_iconst X67 hx (hb hby at_37) (n := (0 : Int32)) (by decide) (q := 38) rfl ?_
      refine g_istore X67 hx (hb hby at_38) (L' := #[.val (.long a), .second, .val (.long b), .second, .val (.long incR), .second, .val (.long incX), .second, .val (.long s6), .second, .val (.int fl), .val (.long (own_stamp a)), .second, .val (.long (own_stamp b)), .second, .val (.int (0 : Int32)), .val (.int (0 : Int32)), .unset, .unset, .unset, .unset, .unset, .unset, .unset, .unset, .unset, .unset, .unset]) rfl (q := 40) rfl ?_
      refine g_iload X67 hx (hb hby at_40) (v := fl) rfl (q := 42) rfl ?_
      refine g_iconst X67 hx (hb hby at_42) (n := (4 : Int32)) (by decide) (q := 43) rfl ?_
      refine g_iand X67 hx (hb hby at_43) (z := (fl &&& (4 : Int32))) rfl (q := 44) rfl ?_
      refine g_if_eq X67 hx (hb hby at_44) (by decide) (q := 51) (by decide) (q2 := 47) rfl (fun hb44 => ?_) (fun hb44 => ?_)
      · refine g_iconst X67 hx (hb hby at_51) (n := (0 : Int32)) (by decide) (q := 52) rfl ?_
        refine g_istore X67 hx (hb hby at_52) (L' := #[.val (.long a), .second, .val (.long b), .second, .val (.long incR), .second, .val (.long incX), .second, .val (.long s6), .second, .val (.int fl), .val (.long (own_stamp a)), .second, .val (.long (own_stamp b)), .second, .val (.int (0 : Int32)), .val (.int (0 : Int32)), .val (.int (0 : Int32)), .unset, .unset, .unset, .unset, .unset, .unset, .unset, .unset, .unset, .unset]) rfl (q := 54) rfl ?_
        refine g_iload X67 hx (hb hby at_54) (v := (0 : Int32)) rfl (q := 56) rfl ?_
        refine g_if_eq X67 hx (hb hby at_56) (by decide) (q := 64) (by decide) (q2 := 59) rfl (fun hb56 => ?_) (fun hb56 => absurd hb56 (by decide))
        refine g_lload X67 hx (hb hby at_64) (v := (own_stamp b)) rfl (q := 66) rfl ?_
        refine g_lstore X67 hx (hb hby at_66) (L' := #[.val (.long a), .second, .val (.long b), .second, .val (.long incR), .second, .val (.long incX), .second, .val (.long s6), .second, .val (.int fl), .val (.long (own_stamp a)), .second, .val (.long (own_stamp b)), .second, .val (.int (0 : Int32)), .val (.int (0 : Int32)), .val (.int (0 : Int32)), .val (.long (own_stamp b)), .second, .unset, .unset, .unset, .unset, .unset, .unset, .unset, .unset]) rfl (q := 68) rfl ?_
        refine g_iload X67 hx (hb hby at_68) (v := (0 : Int32)) rfl (q := 70) rfl ?_
        refine g_if_eq X67 hx (hb hby at_70) (by decide) (q := 78) (by decide) (q2 := 73) rfl (fun hb70 => ?_) (fun hb70 => absurd hb70 (by decide))
        refine g_lload X67 hx (hb hby at_78) (v := incX) rfl (q := 80) rfl ?_
        refine g_lstore X67 hx (hb hby at_80) (L' := #[.val (.long a), .second, .val (.long b), .second, .val (.long incR), .second, .val (.long incX), .second, .val (.long s6), .second, .val (.int fl), .val (.long (own_stamp a)), .second, .val (.long (own_stamp b)), .second, .val (.int (0 : Int32)), .val (.int (0 : Int32)), .val (.int (0 : Int32)), .val (.long (own_stamp b)), .second, .val (.long incX), .second, .unset, .unset, .unset, .unset, .unset, .unset]) rfl (q := 82) rfl ?_
        refine g_iload X67 hx (hb hby at_82) (v := (0 : Int32)) rfl (q := 84) rfl ?_
        refine g_if_eq X67 hx (hb hby at_84) (by decide) (q := 95) (by decide) (q2 := 87) rfl (fun hb84 => ?_) (fun hb84 => absurd hb84 (by decide))
        refine g_lload X67 hx (hb hby at_95) (v := (own_stamp b)) rfl (q := 97) rfl ?_
        refine g_lstore X67 hx (hb hby at_97) (L' := #[.val (.long a), .second, .val (.long b), .second, .val (.long incR), .second, .val (.long incX), .second, .val (.long s6), .second, .val (.int fl), .val (.long (own_stamp a)), .second, .val (.long (own_stamp b)), .second, .val (.int (0 : Int32)), .val (.int (0 : Int32)), .val (.int (0 : Int32)), .val (.long (own_stamp b)), .second, .val (.long incX), .second, .val (.long (own_stamp b)), .second, .unset, .unset, .unset, .unset]) rfl (q := 99) rfl ?_
        refine g_iload X67 hx (hb hby at_99) (v := (0 : Int32)) rfl (q := 101) rfl ?_
        refine g_if_eq X67 hx (hb hby at_101) (by decide) (q := 110) (by decide) (q2 := 104) rfl (fun hb101 => ?_) (fun hb101 => absurd hb101 (by decide))
        refine g_getS X67 hx hZ hown (hw _ (List.mem_of_getElem? (i := 5) rfl)) Via.refl e67 SQ (hb hby at_110) (q := 113) rfl fun T68 X68 e68 => ?_
        refine g_astore X68 hx (hb hby at_113) rfl (L' := #[.val (.long a), .second, .val (.long b), .second, .val (.long incR), .second, .val (.long incX), .second, .val (.long s6), .second, .val (.int fl), .val (.long (own_stamp a)), .second, .val (.long (own_stamp b)), .second, .val (.int (0 : Int32)), .val (.int (0 : Int32)), .val (.int (0 : Int32)), .val (.long (own_stamp b)), .second, .val (.long incX), .second, .val (.long (own_stamp b)), .second, .val (.ref wq), .unset, .unset, .unset]) rfl (q := 115) rfl ?_
        refine g_new X68 hx hZ hown (hw _ (List.mem_of_getElem? (i := 8) rfl)) (hw _ (List.mem_of_getElem? (i := 9) rfl)) (hw _ (List.mem_of_getElem? (i := 10) rfl)) e68 (hb hby at_115) (Nat.le_of_ble_eq_true rfl) (Nat.le_of_ble_eq_true rfl) (q := 118) rfl fun T69 h69 b1 g69 X69 e69 E69 A69 D69 => ?_
        have ge_b1 : n0 ≤ b1 := Nat.le_trans Z0 (Nat.le_of_eq g69.symm)
        have z_69 := Nat.le_trans Z0 E69.1
        have hk_69 := Nat.le_trans hk E69.1
        have f70 := (SQ.ext E69)
        have f71 := (SP.ext E69)
        have F69_type : Fld Z h69 b1 "com/example/bullyring/bullyring/core/mutex/RicartAgrawalaMessage" "type" "Lcom/example/bullyring/bullyring/core/mutex/RicartAgrawalaMessage$Type;" .null := D69 (Or.inr (hw _ (List.mem_of_getElem? (i := 40) rfl))) (ty := (.object "com/example/bullyring/bullyring/core/mutex/RicartAgrawalaMessage$Type")) (by decide)
        have F69_stamp : Fld Z h69 b1 "com/example/bullyring/bullyring/core/mutex/RicartAgrawalaMessage" "stamp" "J" (.long (0 : Int64)) := D69 (Or.inr (hw _ (List.mem_of_getElem? (i := 42) rfl))) (ty := .long) (by decide)
        have F69_requestStamp : Fld Z h69 b1 "com/example/bullyring/bullyring/core/mutex/RicartAgrawalaMessage" "requestStamp" "J" (.long (0 : Int64)) := D69 (Or.inr (hw _ (List.mem_of_getElem? (i := 44) rfl))) (ty := .long) (by decide)
        have F69_incarnation : Fld Z h69 b1 "com/example/bullyring/bullyring/core/mutex/RicartAgrawalaMessage" "incarnation" "J" (.long (0 : Int64)) := D69 (Or.inr (hw _ (List.mem_of_getElem? (i := 46) rfl))) (ty := .long) (by decide)
        refine g_dup X69 hx (hb hby at_118) rfl (q := 119) rfl ?_
        refine g_getS X69 hx hZ hown (hw _ (List.mem_of_getElem? (i := 5) rfl)) Via.refl e69 f70 (hb hby at_119) (q := 122) rfl fun T72 X72 e72 => ?_
        refine g_lload X72 hx (hb hby at_122) (v := (own_stamp a)) rfl (q := 124) rfl ?_
        refine g_lload X72 hx (hb hby at_124) (v := (own_stamp a)) rfl (q := 126) rfl ?_
        refine g_lload X72 hx (hb hby at_126) (v := incR) rfl (q := 128) rfl ?_
        refine g_callIW X72 hx hZ hown rfl (hw _ (List.mem_of_getElem? (i := 11) rfl)) (hw _ (List.mem_of_getElem? (i := 12) rfl)) (hw _ (List.mem_of_getElem? (i := 13) rfl)) (hw _ (List.mem_of_getElem? (i := 10) rfl)) (by decide) e72 hS hk_69 (b := b1) (rmC l Z a0 hw b1 wq wq (own_stamp a) (own_stamp a) incR (own_stamp_ok _) (own_stamp_ok _) (fun _ => rfl) h69 n0 ge_b1 f70 A69 F69_type F69_stamp F69_requestStamp F69_incarnation) (by exact hml.symm) (argsL := [(.ref wq), (.long (own_stamp a)), (.long (own_stamp a)), (.long incR)]) (rest := [(.ref b1)]) rfl rfl pd_4 rfl (Nat.le_of_ble_eq_true rfl) (Nat.le_of_ble_eq_true rfl) (Nat.le_of_ble_eq_true rfl) (Nat.le_of_ble_eq_true rfl) (hb hby at_128) (q := 131) rfl fun v73 T73 L73 h73 e73 X73 hS73 hZ73 hown73 hQ73 => ?_
        obtain ⟨rfl, M73, K73, A73, B73, C73⟩ := hQ73
        have N73 := Fr.app (Fr.nil n0) M73
        have z_73 := Nat.le_trans z_69 K73.1
        have f74 := (own_sta_keep f70 K73 (nsS A69.nostat ns0))
        have f75 := (own_sta_keep f71 K73 (nsS A69.nostat ns0))
        have f76 := (A69.keep K73)
        show Go p e below _ (T73.setTop (mkF m 131 #[.val (.long a), .second, .val (.long b), .second, .val (.long incR), .second, .val (.long incX), .second, .val (.long s6), .second, .val (.int fl), .val (.long (own_stamp a)), .second, .val (.long (own_stamp b)), .second, .val (.int (0 : Int32)), .val (.int (0 : Int32)), .val (.int (0 : Int32)), .val (.long (own_stamp b)), .second, .val (.long incX), .second, .val (.long (own_stamp b)), .second, .val (.ref wq), .unset, .unset, .unset] [(.ref b1)]))
        refine g_astore X73 hx (hb hby at_131) rfl (L' := #[.val (.long a), .second, .val (.long b), .second, .val (.long incR), .second, .val (.long incX), .second, .val (.long s6), .second, .val (.int fl), .val (.long (own_stamp a)), .second, .val (.long (own_stamp b)), .second, .val (.int (0 : Int32)), .val (.int (0 : Int32)), .val (.int (0 : Int32)), .val (.long (own_stamp b)), .second, .val (.long incX), .second, .val (.long (own_stamp b)), .second, .val (.ref wq), .val (.ref b1), .unset, .unset]) rfl (q := 133) rfl ?_
        refine g_new X73 hx hZ73 hown73 (hw _ (List.mem_of_getElem? (i := 8) rfl)) (hw _ (List.mem_of_getElem? (i := 9) rfl)) (hw _ (List.mem_of_getElem? (i := 10) rfl)) e73 (hb hby at_133) (Nat.le_of_ble_eq_true rfl) (Nat.le_of_ble_eq_true rfl) (q := 136) rfl fun T77 h77 b2 g77 X77 e77 E77 A77 D77 => ?_
        have ne_b1_b2 : b1 ≠ b2 := Nat.ne_of_lt (Nat.lt_of_lt_of_le A73.lt (Nat.le_of_eq g77.symm))
        have ge_b2 : n0 ≤ b2 := Nat.le_trans z_73 (Nat.le_of_eq g77.symm)
        have z_77 := Nat.le_trans z_73 E77.1
        have hk_77 := Nat.le_trans (Nat.le_refl _) E77.1
        have f78 := (f74.ext E77)
        have f79 := (f75.ext E77)
        have f80 := (A73.ext E77)
        have f81 := (B73.ext E77)
        have f82 := (C73.ext E77)
        have F77_type : Fld Z h77 b2 "com/example/bullyring/bullyring/core/mutex/RicartAgrawalaMessage" "type" "Lcom/example/bullyring/bullyring/core/mutex/RicartAgrawalaMessage$Type;" .null := D77 (Or.inr (hw _ (List.mem_of_getElem? (i := 40) rfl))) (ty := (.object "com/example/bullyring/bullyring/core/mutex/RicartAgrawalaMessage$Type")) (by decide)
        have F77_stamp : Fld Z h77 b2 "com/example/bullyring/bullyring/core/mutex/RicartAgrawalaMessage" "stamp" "J" (.long (0 : Int64)) := D77 (Or.inr (hw _ (List.mem_of_getElem? (i := 42) rfl))) (ty := .long) (by decide)
        have F77_requestStamp : Fld Z h77 b2 "com/example/bullyring/bullyring/core/mutex/RicartAgrawalaMessage" "requestStamp" "J" (.long (0 : Int64)) := D77 (Or.inr (hw _ (List.mem_of_getElem? (i := 44) rfl))) (ty := .long) (by decide)
        have F77_incarnation : Fld Z h77 b2 "com/example/bullyring/bullyring/core/mutex/RicartAgrawalaMessage" "incarnation" "J" (.long (0 : Int64)) := D77 (Or.inr (hw _ (List.mem_of_getElem? (i := 46) rfl))) (ty := .long) (by decide)
        refine g_dup X77 hx (hb hby at_136) rfl (q := 137) rfl ?_
        refine g_aload X77 hx (hb hby at_137) (v := (.ref wq)) rfl rfl (q := 139) rfl ?_
        refine g_lload X77 hx (hb hby at_139) (v := (own_stamp b)) rfl (q := 141) rfl ?_
        refine g_lload X77 hx (hb hby at_141) (v := (own_stamp b)) rfl (q := 143) rfl ?_
        refine g_lload X77 hx (hb hby at_143) (v := incX) rfl (q := 145) rfl ?_
        refine g_callIW X77 hx hZ73 hown73 rfl (hw _ (List.mem_of_getElem? (i := 11) rfl)) (hw _ (List.mem_of_getElem? (i := 12) rfl)) (hw _ (List.mem_of_getElem? (i := 13) rfl)) (hw _ (List.mem_of_getElem? (i := 10) rfl)) (by decide) e77 hS73 hk_77 (b := b2) (rmC l Z a0 hw b2 wq wq (own_stamp b) (own_stamp b) incX (own_stamp_ok _) (own_stamp_ok _) (fun _ => rfl) h77 n0 ge_b2 f78 A77 F77_type F77_stamp F77_requestStamp F77_incarnation) (by exact hml.symm) (argsL := [(.ref wq), (.long (own_stamp b)), (.long (own_stamp b)), (.long incX)]) (rest := [(.ref b2)]) rfl rfl pd_4 rfl (Nat.le_of_ble_eq_true rfl) (Nat.le_of_ble_eq_true rfl) (Nat.le_of_ble_eq_true rfl) (Nat.le_of_ble_eq_true rfl) (hb hby at_145) (q := 148) rfl fun v83 T83 L83 h83 e83 X83 hS83 hZ83 hown83 hQ83 => ?_
        obtain ⟨rfl, M83, K83, A83, B83, C83⟩ := hQ83
        have N83 := Fr.app N73 M83
        have z_83 := Nat.le_trans z_77 K83.1
        have f84 := (own_sta_keep f78 K83 (nsS A77.nostat ns0))
        have f85 := (own_sta_keep f79 K83 (nsS A77.nostat ns0))
        have f86 := (f80.keep K83)
        have f87 := (f81.keep K83 (ninS ne_b1_b2 nin0))
        have f88 := (f82.keep K83 (ninS ne_b1_b2 nin0))
        have f89 := (A77.keep K83)
        show Go p e below _ (T83.setTop (mkF m 148 #[.val (.long a), .second, .val (.long b), .second, .val (.long incR), .second, .val (.long incX), .second, .val (.long s6), .second, .val (.int fl), .val (.long (own_stamp a)), .second, .val (.long (own_stamp b)), .second, .val (.int (0 : Int32)), .val (.int (0 : Int32)), .val (.int (0 : Int32)), .val (.long (own_stamp b)), .second, .val (.long incX), .second, .val (.long (own_stamp b)), .second, .val (.ref wq), .val (.ref b1), .unset, .unset] [(.ref b2)]))
        refine g_astore X83 hx (hb hby at_148) rfl (L' := #[.val (.long a), .second, .val (.long b), .second, .val (.long incR), .second, .val (.long incX), .second, .val (.long s6), .second, .val (.int fl), .val (.long (own_stamp a)), .second, .val (.long (own_stamp b)), .second, .val (.int (0 : Int32)), .val (.int (0 : Int32)), .val (.int (0 : Int32)), .val (.long (own_stamp b)), .second, .val (.long incX), .second, .val (.long (own_stamp b)), .second, .val (.ref wq), .val (.ref b1), .val (.ref b2), .unset]) rfl (q := 150) rfl ?_
        refine g_iload X83 hx (hb hby at_150) (v := (0 : Int32)) rfl (q := 152) rfl ?_
        refine g_if_ne X83 hx (hb hby at_152) (by decide) (q := 163) (by decide) (q2 := 155) rfl (fun hb152 => absurd hb152 (by decide)) (fun hb152 => ?_)
        refine g_lload X83 hx (hb hby at_155) (v := (own_stamp b)) rfl (q := 157) rfl ?_
        refine g_lload X83 hx (hb hby at_157) (v := (own_stamp a)) rfl (q := 159) rfl ?_
        refine g_lcmp X83 hx (hb hby at_159) (z := (lcmpW (own_stamp b) (own_stamp a))) rfl (q := 160) rfl ?_
        refine g_if_ne X83 hx (hb hby at_160) (by decide) (q := 180) (by decide) (q2 := 163) rfl (fun hb160 => ?_) (fun hb160 => ?_)
        · refine g_iconst X83 hx (hb hby at_180) (n := (0 : Int32)) (by decide) (q := 181) rfl ?_
          refine g_istore X83 hx (hb hby at_181) (L' := #[.val (.long a), .second, .val (.long b), .second, .val (.long incR), .second, .val (.long incX), .second, .val (.long s6), .second, .val (.int fl), .val (.long (own_stamp a)), .second, .val (.long (own_stamp b)), .second, .val (.int (0 : Int32)), .val (.int (0 : Int32)), .val (.int (0 : Int32)), .val (.long (own_stamp b)), .second, .val (.long incX), .second, .val (.long (own_stamp b)), .second, .val (.ref wq), .val (.ref b1), .val (.ref b2), .val (.int (0 : Int32))]) rfl (q := 183) rfl ?_
          refine g_aload X83 hx (hb hby at_183) (v := (.ref b2)) rfl rfl (q := 185) rfl ?_
          refine g_aload X83 hx (hb hby at_185) (v := (.ref b1)) rfl rfl (q := 187) rfl ?_
          refine g_callV X83 hx hZ83 hown83 (hw _ (List.mem_of_getElem? (i := 47) rfl)) (hw _ (List.mem_of_getElem? (i := 48) rfl)) (hw _ (List.mem_of_getElem? (i := 50) rfl)) (hw _ (List.mem_of_getElem? (i := 49) rfl)) (hw _ (List.mem_of_getElem? (i := 51) rfl)) (hw _ (List.mem_of_getElem? (i := 10) rfl)) (notFace_of_selects (args := #[]) (mvT hZ83 (hw _ (List.mem_of_getElem? (i := 50) rfl)))) (by decide) e83 A83 (rmNm l Z a0 hw b2 b1 (own_stamp b) incX (own_stamp a) incR h83 B83 C83 f87 f88 (0 : Int32) (by simp [(show ¬ own_stamp b = own_stamp a from fun q => hb160 ((lw_eq _ _).mpr q))])) (by exact hml.symm) (argsL := [(.ref b1)]) (rest := []) rfl rfl pd_5 rfl (Nat.le_of_ble_eq_true rfl) (Nat.le_of_ble_eq_true rfl) (Nat.le_of_ble_eq_true rfl) (Nat.le_of_ble_eq_true rfl) (hb hby at_187) (q := 190) rfl (g_pure rfl rfl fun T90 X90 e90 => ?_)
          show Go p e below _ (T90.setTop (mkF m 190 #[.val (.long a), .second, .val (.long b), .second, .val (.long incR), .second, .val (.long incX), .second, .val (.long s6), .second, .val (.int fl), .val (.long (own_stamp a)), .second, .val (.long (own_stamp b)), .second, .val (.int (0 : Int32)), .val (.int (0 : Int32)), .val (.int (0 : Int32)), .val (.long (own_stamp b)), .second, .val (.long incX), .second, .val (.long (own_stamp b)), .second, .val (.ref wq), .val (.ref b1), .val (.ref b2), .val (.int (0 : Int32))] [(.int (0 : Int32))]))
          refine g_iload X90 hx (hb hby at_190) (v := (0 : Int32)) rfl (q := 192) rfl ?_
          refine g_icmp_ne X90 hx (hb hby at_192) (by decide) (q := 199) (by decide) (q2 := 195) rfl (fun hb192 => absurd hb192 (by decide)) (fun hb192 => ?_)
          refine g_iconst X90 hx (hb hby at_195) (n := (1 : Int32)) (by decide) (q := 196) rfl ?_
          refine g_goto X90 hx (hb hby at_196) (by decide) (q := 200) (by decide) ?_
          exact g_retBW X90 hS83 (by rw [e90]; exact (Nat.le_refl _)) hx hret hlk (hb hby at_200) (by decide) ⟨rfl, by simpa using N83⟩ (Nat.le_of_ble_eq_true rfl) (Nat.le_of_ble_eq_true rfl)
        · refine g_iload X83 hx (hb hby at_163) (v := (0 : Int32)) rfl (q := 165) rfl ?_
          refine g_if_ne X83 hx (hb hby at_165) (by decide) (q := 176) (by decide) (q2 := 168) rfl (fun hb165 => absurd hb165 (by decide)) (fun hb165 => ?_)
          refine g_lload X83 hx (hb hby at_168) (v := incX) rfl (q := 170) rfl ?_
          refine g_lload X83 hx (hb hby at_170) (v := incR) rfl (q := 172) rfl ?_
          refine g_lcmp X83 hx (hb hby at_172) (z := (lcmpW incX incR)) rfl (q := 173) rfl ?_
          refine g_if_ne X83 hx (hb hby at_173) (by decide) (q := 180) (by decide) (q2 := 176) rfl (fun hb173 => ?_) (fun hb173 => ?_)
          · refine g_iconst X83 hx (hb hby at_180) (n := (0 : Int32)) (by decide) (q := 181) rfl ?_
            refine g_istore X83 hx (hb hby at_181) (L' := #[.val (.long a), .second, .val (.long b), .second, .val (.long incR), .second, .val (.long incX), .second, .val (.long s6), .second, .val (.int fl), .val (.long (own_stamp a)), .second, .val (.long (own_stamp b)), .second, .val (.int (0 : Int32)), .val (.int (0 : Int32)), .val (.int (0 : Int32)), .val (.long (own_stamp b)), .second, .val (.long incX), .second, .val (.long (own_stamp b)), .second, .val (.ref wq), .val (.ref b1), .val (.ref b2), .val (.int (0 : Int32))]) rfl (q := 183) rfl ?_
            refine g_aload X83 hx (hb hby at_183) (v := (.ref b2)) rfl rfl (q := 185) rfl ?_
            refine g_aload X83 hx (hb hby at_185) (v := (.ref b1)) rfl rfl (q := 187) rfl ?_
            refine g_callV X83 hx hZ83 hown83 (hw _ (List.mem_of_getElem? (i := 47) rfl)) (hw _ (List.mem_of_getElem? (i := 48) rfl)) (hw _ (List.mem_of_getElem? (i := 50) rfl)) (hw _ (List.mem_of_getElem? (i := 49) rfl)) (hw _ (List.mem_of_getElem? (i := 51) rfl)) (hw _ (List.mem_of_getElem? (i := 10) rfl)) (notFace_of_selects (args := #[]) (mvT hZ83 (hw _ (List.mem_of_getElem? (i := 50) rfl)))) (by decide) e83 A83 (rmNm l Z a0 hw b2 b1 (own_stamp b) incX (own_stamp a) incR h83 B83 C83 f87 f88 (0 : Int32) (by simp [(show own_stamp b = own_stamp a from (lw_eq _ _).mp hb160), (show ¬ incX = incR from fun q => hb173 ((lw_eq _ _).mpr q))])) (by exact hml.symm) (argsL := [(.ref b1)]) (rest := []) rfl rfl pd_5 rfl (Nat.le_of_ble_eq_true rfl) (Nat.le_of_ble_eq_true rfl) (Nat.le_of_ble_eq_true rfl) (Nat.le_of_ble_eq_true rfl) (hb hby at_187) (q := 190) rfl (g_pure rfl rfl fun T91 X91 e91 => ?_)
            show Go p e below _ (T91.setTop (mkF m 190 #[.val (.long a), .second, .val (.long b), .second, .val (.long incR), .second, .val (.long incX), .second, .val (.long s6), .second, .val (.int fl), .val (.long (own_stamp a)), .second, .val (.long (own_stamp b)), .second, .val (.int (0 : Int32)), .val (.int (0 : Int32)), .val (.int (0 : Int32)), .val (.long (own_stamp b)), .second, .val (.long incX), .second, .val (.long (own_stamp b)), .second, .val (.ref wq), .val (.ref b1), .val (.ref b2), .val (.int (0 : Int32))] [(.int (0 : Int32))]))
            refine g_iload X91 hx (hb hby at_190) (v := (0 : Int32)) rfl (q := 192) rfl ?_
            refine g_icmp_ne X91 hx (hb hby at_192) (by decide) (q := 199) (by decide) (q2 := 195) rfl (fun hb192 => absurd hb192 (by decide)) (fun hb192 => ?_)
            refine g_iconst X91 hx (hb hby at_195) (n := (1 : Int32)) (by decide) (q := 196) rfl ?_
            refine g_goto X91 hx (hb hby at_196) (by decide) (q := 200) (by decide) ?_
            exact g_retBW X91 hS83 (by rw [e91]; exact (Nat.le_refl _)) hx hret hlk (hb hby at_200) (by decide) ⟨rfl, by simpa using N83⟩ (Nat.le_of_ble_eq_true rfl) (Nat.le_of_ble_eq_true rfl)
          · refine g_iconst X83 hx (hb hby at_176) (n := (1 : Int32)) (by decide) (q := 177) rfl ?_
            refine g_goto X83 hx (hb hby at_177) (by decide) (q := 181) (by decide) ?_
            refine g_istore X83 hx (hb hby at_181) (L' := #[.val (.long a), .second, .val (.long b), .second, .val (.long incR), .second, .val (.long incX), .second, .val (.long s6), .second, .val (.int fl), .val (.long (own_stamp a)), .second, .val (.long (own_stamp b)), .second, .val (.int (0 : Int32)), .val (.int (0 : Int32)), .val (.int (0 : Int32)), .val (.long (own_stamp b)), .second, .val (.long incX), .second, .val (.long (own_stamp b)), .second, .val (.ref wq), .val (.ref b1), .val (.ref b2), .val (.int (1 : Int32))]) rfl (q := 183) rfl ?_
            refine g_aload X83 hx (hb hby at_183) (v := (.ref b2)) rfl rfl (q := 185) rfl ?_
            refine g_aload X83 hx (hb hby at_185) (v := (.ref b1)) rfl rfl (q := 187) rfl ?_
            refine g_callV X83 hx hZ83 hown83 (hw _ (List.mem_of_getElem? (i := 47) rfl)) (hw _ (List.mem_of_getElem? (i := 48) rfl)) (hw _ (List.mem_of_getElem? (i := 50) rfl)) (hw _ (List.mem_of_getElem? (i := 49) rfl)) (hw _ (List.mem_of_getElem? (i := 51) rfl)) (hw _ (List.mem_of_getElem? (i := 10) rfl)) (notFace_of_selects (args := #[]) (mvT hZ83 (hw _ (List.mem_of_getElem? (i := 50) rfl)))) (by decide) e83 A83 (rmNm l Z a0 hw b2 b1 (own_stamp b) incX (own_stamp a) incR h83 B83 C83 f87 f88 (1 : Int32) (by simp [(show own_stamp b = own_stamp a from (lw_eq _ _).mp hb160), (show incX = incR from (lw_eq _ _).mp hb173)])) (by exact hml.symm) (argsL := [(.ref b1)]) (rest := []) rfl rfl pd_5 rfl (Nat.le_of_ble_eq_true rfl) (Nat.le_of_ble_eq_true rfl) (Nat.le_of_ble_eq_true rfl) (Nat.le_of_ble_eq_true rfl) (hb hby at_187) (q := 190) rfl (g_pure rfl rfl fun T92 X92 e92 => ?_)
            show Go p e below _ (T92.setTop (mkF m 190 #[.val (.long a), .second, .val (.long b), .second, .val (.long incR), .second, .val (.long incX), .second, .val (.long s6), .second, .val (.int fl), .val (.long (own_stamp a)), .second, .val (.long (own_stamp b)), .second, .val (.int (0 : Int32)), .val (.int (0 : Int32)), .val (.int (0 : Int32)), .val (.long (own_stamp b)), .second, .val (.long incX), .second, .val (.long (own_stamp b)), .second, .val (.ref wq), .val (.ref b1), .val (.ref b2), .val (.int (1 : Int32))] [(.int (1 : Int32))]))
            refine g_iload X92 hx (hb hby at_190) (v := (1 : Int32)) rfl (q := 192) rfl ?_
            refine g_icmp_ne X92 hx (hb hby at_192) (by decide) (q := 199) (by decide) (q2 := 195) rfl (fun hb192 => absurd hb192 (by decide)) (fun hb192 => ?_)
            refine g_iconst X92 hx (hb hby at_195) (n := (1 : Int32)) (by decide) (q := 196) rfl ?_
            refine g_goto X92 hx (hb hby at_196) (by decide) (q := 200) (by decide) ?_
            exact g_retBW X92 hS83 (by rw [e92]; exact (Nat.le_refl _)) hx hret hlk (hb hby at_200) (by decide) ⟨rfl, by simpa using N83⟩ (Nat.le_of_ble_eq_true rfl) (Nat.le_of_ble_eq_true rfl)
      · refine g_iconst X67 hx (hb hby at_47) (n := (1 : Int32)) (by decide) (q := 48) rfl ?_
        refine g_goto X67 hx (hb hby at_48) (by decide) (q := 52) (by decide) ?_
        refine g_istore X67 hx (hb hby at_52) (L' := #[.val (.long a), .second, .val (.long b), .second, .val (.long incR), .second, .val (.long incX), .second, .val (.long s6), .second, .val (.int fl), .val (.long (own_stamp a)), .second, .val (.long (own_stamp b)), .second, .val (.int (0 : Int32)), .val (.int (0 : Int32)), .val (.int (1 : Int32)), .unset, .unset, .unset, .unset, .unset, .unset, .unset, .unset, .unset, .unset]) rfl (q := 54) rfl ?_
        refine g_iload X67 hx (hb hby at_54) (v := (0 : Int32)) rfl (q := 56) rfl ?_
        refine g_if_eq X67 hx (hb hby at_56) (by decide) (q := 64) (by decide) (q2 := 59) rfl (fun hb56 => ?_) (fun hb56 => absurd hb56 (by decide))
        refine g_lload X67 hx (hb hby at_64) (v := (own_stamp b)) rfl (q := 66) rfl ?_
        refine g_lstore X67 hx (hb hby at_66) (L' := #[.val (.long a), .second, .val (.long b), .second, .val (.long incR), .second, .val (.long incX), .second, .val (.long s6), .second, .val (.int fl), .val (.long (own_stamp a)), .second, .val (.long (own_stamp b)), .second, .val (.int (0 : Int32)), .val (.int (0 : Int32)), .val (.int (1 : Int32)), .val (.long (own_stamp b)), .second, .unset, .unset, .unset, .unset, .unset, .unset, .unset, .unset]) rfl (q := 68) rfl ?_
        refine g_iload X67 hx (hb hby at_68) (v := (1 : Int32)) rfl (q := 70) rfl ?_
        refine g_if_eq X67 hx (hb hby at_70) (by decide) (q := 78) (by decide) (q2 := 73) rfl (fun hb70 => absurd hb70 (by decide)) (fun hb70 => ?_)
        refine g_lload X67 hx (hb hby at_73) (v := incR) rfl (q := 75) rfl ?_
        refine g_goto X67 hx (hb hby at_75) (by decide) (q := 80) (by decide) ?_
        refine g_lstore X67 hx (hb hby at_80) (L' := #[.val (.long a), .second, .val (.long b), .second, .val (.long incR), .second, .val (.long incX), .second, .val (.long s6), .second, .val (.int fl), .val (.long (own_stamp a)), .second, .val (.long (own_stamp b)), .second, .val (.int (0 : Int32)), .val (.int (0 : Int32)), .val (.int (1 : Int32)), .val (.long (own_stamp b)), .second, .val (.long incR), .second, .unset, .unset, .unset, .unset, .unset, .unset]) rfl (q := 82) rfl ?_
        refine g_iload X67 hx (hb hby at_82) (v := (0 : Int32)) rfl (q := 84) rfl ?_
        refine g_if_eq X67 hx (hb hby at_84) (by decide) (q := 95) (by decide) (q2 := 87) rfl (fun hb84 => ?_) (fun hb84 => absurd hb84 (by decide))
        refine g_lload X67 hx (hb hby at_95) (v := (own_stamp b)) rfl (q := 97) rfl ?_
        refine g_lstore X67 hx (hb hby at_97) (L' := #[.val (.long a), .second, .val (.long b), .second, .val (.long incR), .second, .val (.long incX), .second, .val (.long s6), .second, .val (.int fl), .val (.long (own_stamp a)), .second, .val (.long (own_stamp b)), .second, .val (.int (0 : Int32)), .val (.int (0 : Int32)), .val (.int (1 : Int32)), .val (.long (own_stamp b)), .second, .val (.long incR), .second, .val (.long (own_stamp b)), .second, .unset, .unset, .unset, .unset]) rfl (q := 99) rfl ?_
        refine g_iload X67 hx (hb hby at_99) (v := (0 : Int32)) rfl (q := 101) rfl ?_
        refine g_if_eq X67 hx (hb hby at_101) (by decide) (q := 110) (by decide) (q2 := 104) rfl (fun hb101 => ?_) (fun hb101 => absurd hb101 (by decide))
        refine g_getS X67 hx hZ hown (hw _ (List.mem_of_getElem? (i := 5) rfl)) Via.refl e67 SQ (hb hby at_110) (q := 113) rfl fun T93 X93 e93 => ?_
        refine g_astore X93 hx (hb hby at_113) rfl (L' := #[.val (.long a), .second, .val (.long b), .second, .val (.long incR), .second, .val (.long incX), .second, .val (.long s6), .second, .val (.int fl), .val (.long (own_stamp a)), .second, .val (.long (own_stamp b)), .second, .val (.int (0 : Int32)), .val (.int (0 : Int32)), .val (.int (1 : Int32)), .val (.long (own_stamp b)), .second, .val (.long incR), .second, .val (.long (own_stamp b)), .second, .val (.ref wq), .unset, .unset, .unset]) rfl (q := 115) rfl ?_
        refine g_new X93 hx hZ hown (hw _ (List.mem_of_getElem? (i := 8) rfl)) (hw _ (List.mem_of_getElem? (i := 9) rfl)) (hw _ (List.mem_of_getElem? (i := 10) rfl)) e93 (hb hby at_115) (Nat.le_of_ble_eq_true rfl) (Nat.le_of_ble_eq_true rfl) (q := 118) rfl fun T94 h94 b1 g94 X94 e94 E94 A94 D94 => ?_
        have ge_b1 : n0 ≤ b1 := Nat.le_trans Z0 (Nat.le_of_eq g94.symm)
        have z_94 := Nat.le_trans Z0 E94.1
        have hk_94 := Nat.le_trans hk E94.1
        have f95 := (SQ.ext E94)
        have f96 := (SP.ext E94)
        have F94_type : Fld Z h94 b1 "com/example/bullyring/bullyring/core/mutex/RicartAgrawalaMessage" "type" "Lcom/example/bullyring/bullyring/core/mutex/RicartAgrawalaMessage$Type;" .null := D94 (Or.inr (hw _ (List.mem_of_getElem? (i := 40) rfl))) (ty := (.object "com/example/bullyring/bullyring/core/mutex/RicartAgrawalaMessage$Type")) (by decide)
        have F94_stamp : Fld Z h94 b1 "com/example/bullyring/bullyring/core/mutex/RicartAgrawalaMessage" "stamp" "J" (.long (0 : Int64)) := D94 (Or.inr (hw _ (List.mem_of_getElem? (i := 42) rfl))) (ty := .long) (by decide)
        have F94_requestStamp : Fld Z h94 b1 "com/example/bullyring/bullyring/core/mutex/RicartAgrawalaMessage" "requestStamp" "J" (.long (0 : Int64)) := D94 (Or.inr (hw _ (List.mem_of_getElem? (i := 44) rfl))) (ty := .long) (by decide)
        have F94_incarnation : Fld Z h94 b1 "com/example/bullyring/bullyring/core/mutex/RicartAgrawalaMessage" "incarnation" "J" (.long (0 : Int64)) := D94 (Or.inr (hw _ (List.mem_of_getElem? (i := 46) rfl))) (ty := .long) (by decide)
        refine g_dup X94 hx (hb hby at_118) rfl (q := 119) rfl ?_
        refine g_getS X94 hx hZ hown (hw _ (List.mem_of_getElem? (i := 5) rfl)) Via.refl e94 f95 (hb hby at_119) (q := 122) rfl fun T97 X97 e97 => ?_
        refine g_lload X97 hx (hb hby at_122) (v := (own_stamp a)) rfl (q := 124) rfl ?_
        refine g_lload X97 hx (hb hby at_124) (v := (own_stamp a)) rfl (q := 126) rfl ?_
        refine g_lload X97 hx (hb hby at_126) (v := incR) rfl (q := 128) rfl ?_
        refine g_callIW X97 hx hZ hown rfl (hw _ (List.mem_of_getElem? (i := 11) rfl)) (hw _ (List.mem_of_getElem? (i := 12) rfl)) (hw _ (List.mem_of_getElem? (i := 13) rfl)) (hw _ (List.mem_of_getElem? (i := 10) rfl)) (by decide) e97 hS hk_94 (b := b1) (rmC l Z a0 hw b1 wq wq (own_stamp a) (own_stamp a) incR (own_stamp_ok _) (own_stamp_ok _) (fun _ => rfl) h94 n0 ge_b1 f95 A94 F94_type F94_stamp F94_requestStamp F94_incarnation) (by exact hml.symm) (argsL := [(.ref wq), (.long (own_stamp a)), (.long (own_stamp a)), (.long incR)]) (rest := [(.ref b1)]) rfl rfl pd_4 rfl (Nat.le_of_ble_eq_true rfl) (Nat.le_of_ble_eq_true rfl) (Nat.le_of_ble_eq_true rfl) (Nat.le_of_ble_eq_true rfl) (hb hby at_128) (q := 131) rfl fun v98 T98 L98 h98 e98 X98 hS98 hZ98 hown98 hQ98 => ?_
        obtain ⟨rfl, M98, K98, A98, B98, C98⟩ := hQ98
        have N98 := Fr.app (Fr.nil n0) M98
        have z_98 := Nat.le_trans z_94 K98.1
        have f99 := (own_sta_keep f95 K98 (nsS A94.nostat ns0))
        have f100 := (own_sta_keep f96 K98 (nsS A94.nostat ns0))
        have f101 := (A94.keep K98)
        show Go p e below _ (T98.setTop (mkF m 131 #[.val (.long a), .second, .val (.long b), .second, .val (.long incR), .second, .val (.long incX), .second, .val (.long s6), .second, .val (.int fl), .val (.long (own_stamp a)), .second, .val (.long (own_stamp b)), .second, .val (.int (0 : Int32)), .val (.int (0 : Int32)), .val (.int (1 : Int32)), .val (.long (own_stamp b)), .second, .val (.long incR), .second, .val (.long (own_stamp b)), .second, .val (.ref wq), .unset, .unset, .unset] [(.ref b1)]))
        refine g_astore X98 hx (hb hby at_131) rfl (L' := #[.val (.long a), .second, .val (.long b), .second, .val (.long incR), .second, .val (.long incX), .second, .val (.long s6), .second, .val (.int fl), .val (.long (own_stamp a)), .second, .val (.long (own_stamp b)), .second, .val (.int (0 : Int32)), .val (.int (0 : Int32)), .val (.int (1 : Int32)), .val (.long (own_stamp b)), .second, .val (.long incR), .second, .val (.long (own_stamp b)), .second, .val (.ref wq), .val (.ref b1), .unset, .unset]) rfl (q := 133) rfl ?_
        refine g_new X98 hx hZ98 hown98 (hw _ (List.mem_of_getElem? (i := 8) rfl)) (hw _ (List.mem_of_getElem? (i := 9) rfl)) (hw _ (List.mem_of_getElem? (i := 10) rfl)) e98 (hb hby at_133) (Nat.le_of_ble_eq_true rfl) (Nat.le_of_ble_eq_true rfl) (q := 136) rfl fun T102 h102 b2 g102 X102 e102 E102 A102 D102 => ?_
        have ne_b1_b2 : b1 ≠ b2 := Nat.ne_of_lt (Nat.lt_of_lt_of_le A98.lt (Nat.le_of_eq g102.symm))
        have ge_b2 : n0 ≤ b2 := Nat.le_trans z_98 (Nat.le_of_eq g102.symm)
        have z_102 := Nat.le_trans z_98 E102.1
        have hk_102 := Nat.le_trans (Nat.le_refl _) E102.1
        have f103 := (f99.ext E102)
        have f104 := (f100.ext E102)
        have f105 := (A98.ext E102)
        have f106 := (B98.ext E102)
        have f107 := (C98.ext E102)
        have F102_type : Fld Z h102 b2 "com/example/bullyring/bullyring/core/mutex/RicartAgrawalaMessage" "type" "Lcom/example/bullyring/bullyring/core/mutex/RicartAgrawalaMessage$Type;" .null := D102 (Or.inr (hw _ (List.mem_of_getElem? (i := 40) rfl))) (ty := (.object "com/example/bullyring/bullyring/core/mutex/RicartAgrawalaMessage$Type")) (by decide)
        have F102_stamp : Fld Z h102 b2 "com/example/bullyring/bullyring/core/mutex/RicartAgrawalaMessage" "stamp" "J" (.long (0 : Int64)) := D102 (Or.inr (hw _ (List.mem_of_getElem? (i := 42) rfl))) (ty := .long) (by decide)
        have F102_requestStamp : Fld Z h102 b2 "com/example/bullyring/bullyring/core/mutex/RicartAgrawalaMessage" "requestStamp" "J" (.long (0 : Int64)) := D102 (Or.inr (hw _ (List.mem_of_getElem? (i := 44) rfl))) (ty := .long) (by decide)
        have F102_incarnation : Fld Z h102 b2 "com/example/bullyring/bullyring/core/mutex/RicartAgrawalaMessage" "incarnation" "J" (.long (0 : Int64)) := D102 (Or.inr (hw _ (List.mem_of_getElem? (i := 46) rfl))) (ty := .long) (by decide)
        refine g_dup X102 hx (hb hby at_136) rfl (q := 137) rfl ?_
        refine g_aload X102 hx (hb hby at_137) (v := (.ref wq)) rfl rfl (q := 139) rfl ?_
        refine g_lload X102 hx (hb hby at_139) (v := (own_stamp b)) rfl (q := 141) rfl ?_
        refine g_lload X102 hx (hb hby at_141) (v := (own_stamp b)) rfl (q := 143) rfl ?_
        refine g_lload X102 hx (hb hby at_143) (v := incR) rfl (q := 145) rfl ?_
        refine g_callIW X102 hx hZ98 hown98 rfl (hw _ (List.mem_of_getElem? (i := 11) rfl)) (hw _ (List.mem_of_getElem? (i := 12) rfl)) (hw _ (List.mem_of_getElem? (i := 13) rfl)) (hw _ (List.mem_of_getElem? (i := 10) rfl)) (by decide) e102 hS98 hk_102 (b := b2) (rmC l Z a0 hw b2 wq wq (own_stamp b) (own_stamp b) incR (own_stamp_ok _) (own_stamp_ok _) (fun _ => rfl) h102 n0 ge_b2 f103 A102 F102_type F102_stamp F102_requestStamp F102_incarnation) (by exact hml.symm) (argsL := [(.ref wq), (.long (own_stamp b)), (.long (own_stamp b)), (.long incR)]) (rest := [(.ref b2)]) rfl rfl pd_4 rfl (Nat.le_of_ble_eq_true rfl) (Nat.le_of_ble_eq_true rfl) (Nat.le_of_ble_eq_true rfl) (Nat.le_of_ble_eq_true rfl) (hb hby at_145) (q := 148) rfl fun v108 T108 L108 h108 e108 X108 hS108 hZ108 hown108 hQ108 => ?_
        obtain ⟨rfl, M108, K108, A108, B108, C108⟩ := hQ108
        have N108 := Fr.app N98 M108
        have z_108 := Nat.le_trans z_102 K108.1
        have f109 := (own_sta_keep f103 K108 (nsS A102.nostat ns0))
        have f110 := (own_sta_keep f104 K108 (nsS A102.nostat ns0))
        have f111 := (f105.keep K108)
        have f112 := (f106.keep K108 (ninS ne_b1_b2 nin0))
        have f113 := (f107.keep K108 (ninS ne_b1_b2 nin0))
        have f114 := (A102.keep K108)
        show Go p e below _ (T108.setTop (mkF m 148 #[.val (.long a), .second, .val (.long b), .second, .val (.long incR), .second, .val (.long incX), .second, .val (.long s6), .second, .val (.int fl), .val (.long (own_stamp a)), .second, .val (.long (own_stamp b)), .second, .val (.int (0 : Int32)), .val (.int (0 : Int32)), .val (.int (1 : Int32)), .val (.long (own_stamp b)), .second, .val (.long incR), .second, .val (.long (own_stamp b)), .second, .val (.ref wq), .val (.ref b1), .unset, .unset] [(.ref b2)]))
        refine g_astore X108 hx (hb hby at_148) rfl (L' := #[.val (.long a), .second, .val (.long b), .second, .val (.long incR), .second, .val (.long incX), .second, .val (.long s6), .second, .val (.int fl), .val (.long (own_stamp a)), .second, .val (.long (own_stamp b)), .second, .val (.int (0 : Int32)), .val (.int (0 : Int32)), .val (.int (1 : Int32)), .val (.long (own_stamp b)), .second, .val (.long incR), .second, .val (.long (own_stamp b)), .second, .val (.ref wq), .val (.ref b1), .val (.ref b2), .unset]) rfl (q := 150) rfl ?_
        refine g_iload X108 hx (hb hby at_150) (v := (0 : Int32)) rfl (q := 152) rfl ?_
        refine g_if_ne X108 hx (hb hby at_152) (by decide) (q := 163) (by decide) (q2 := 155) rfl (fun hb152 => absurd hb152 (by decide)) (fun hb152 => ?_)
        refine g_lload X108 hx (hb hby at_155) (v := (own_stamp b)) rfl (q := 157) rfl ?_
        refine g_lload X108 hx (hb hby at_157) (v := (own_stamp a)) rfl (q := 159) rfl ?_
        refine g_lcmp X108 hx (hb hby at_159) (z := (lcmpW (own_stamp b) (own_stamp a))) rfl (q := 160) rfl ?_
        refine g_if_ne X108 hx (hb hby at_160) (by decide) (q := 180) (by decide) (q2 := 163) rfl (fun hb160 => ?_) (fun hb160 => ?_)
        · refine g_iconst X108 hx (hb hby at_180) (n := (0 : Int32)) (by decide) (q := 181) rfl ?_
          refine g_istore X108 hx (hb hby at_181) (L' := #[.val (.long a), .second, .val (.long b), .second, .val (.long incR), .second, .val (.long incX), .second, .val (.long s6), .second, .val (.int fl), .val (.long (own_stamp a)), .second, .val (.long (own_stamp b)), .second, .val (.int (0 : Int32)), .val (.int (0 : Int32)), .val (.int (1 : Int32)), .val (.long (own_stamp b)), .second, .val (.long incR), .second, .val (.long (own_stamp b)), .second, .val (.ref wq), .val (.ref b1), .val (.ref b2), .val (.int (0 : Int32))]) rfl (q := 183) rfl ?_
          refine g_aload X108 hx (hb hby at_183) (v := (.ref b2)) rfl rfl (q := 185) rfl ?_
          refine g_aload X108 hx (hb hby at_185) (v := (.ref b1)) rfl rfl (q := 187) rfl ?_
          refine g_callV X108 hx hZ108 hown108 (hw _ (List.mem_of_getElem? (i := 47) rfl)) (hw _ (List.mem_of_getElem? (i := 48) rfl)) (hw _ (List.mem_of_getElem? (i := 50) rfl)) (hw _ (List.mem_of_getElem? (i := 49) rfl)) (hw _ (List.mem_of_getElem? (i := 51) rfl)) (hw _ (List.mem_of_getElem? (i := 10) rfl)) (notFace_of_selects (args := #[]) (mvT hZ108 (hw _ (List.mem_of_getElem? (i := 50) rfl)))) (by decide) e108 A108 (rmNm l Z a0 hw b2 b1 (own_stamp b) incR (own_stamp a) incR h108 B108 C108 f112 f113 (0 : Int32) (by simp [(show ¬ own_stamp b = own_stamp a from fun q => hb160 ((lw_eq _ _).mpr q))])) (by exact hml.symm) (argsL := [(.ref b1)]) (rest := []) rfl rfl pd_5 rfl (Nat.le_of_ble_eq_true rfl) (Nat.le_of_ble_eq_true rfl) (Nat.le_of_ble_eq_true rfl) (Nat.le_of_ble_eq_true rfl) (hb hby at_187) (q := 190) rfl (g_pure rfl rfl fun T115 X115 e115 => ?_)
          show Go p e below _ (T115.setTop (mkF m 190 #[.val (.long a), .second, .val (.long b), .second, .val (.long incR), .second, .val (.long incX), .second, .val (.long s6), .second, .val (.int fl), .val (.long (own_stamp a)), .second, .val (.long (own_stamp b)), .second, .val (.int (0 : Int32)), .val (.int (0 : Int32)), .val (.int (1 : Int32)), .val (.long (own_stamp b)), .second, .val (.long incR), .second, .val (.long (own_stamp b)), .second, .val (.ref wq), .val (.ref b1), .val (.ref b2), .val (.int (0 : Int32))] [(.int (0 : Int32))]))
          refine g_iload X115 hx (hb hby at_190) (v := (0 : Int32)) rfl (q := 192) rfl ?_
          refine g_icmp_ne X115 hx (hb hby at_192) (by decide) (q := 199) (by decide) (q2 := 195) rfl (fun hb192 => absurd hb192 (by decide)) (fun hb192 => ?_)
          refine g_iconst X115 hx (hb hby at_195) (n := (1 : Int32)) (by decide) (q := 196) rfl ?_
          refine g_goto X115 hx (hb hby at_196) (by decide) (q := 200) (by decide) ?_
          exact g_retBW X115 hS108 (by rw [e115]; exact (Nat.le_refl _)) hx hret hlk (hb hby at_200) (by decide) ⟨rfl, by simpa using N108⟩ (Nat.le_of_ble_eq_true rfl) (Nat.le_of_ble_eq_true rfl)
        · refine g_iload X108 hx (hb hby at_163) (v := (1 : Int32)) rfl (q := 165) rfl ?_
          refine g_if_ne X108 hx (hb hby at_165) (by decide) (q := 176) (by decide) (q2 := 168) rfl (fun hb165 => ?_) (fun hb165 => absurd hb165 (by decide))
          refine g_iconst X108 hx (hb hby at_176) (n := (1 : Int32)) (by decide) (q := 177) rfl ?_
          refine g_goto X108 hx (hb hby at_177) (by decide) (q := 181) (by decide) ?_
          refine g_istore X108 hx (hb hby at_181) (L' := #[.val (.long a), .second, .val (.long b), .second, .val (.long incR), .second, .val (.long incX), .second, .val (.long s6), .second, .val (.int fl), .val (.long (own_stamp a)), .second, .val (.long (own_stamp b)), .second, .val (.int (0 : Int32)), .val (.int (0 : Int32)), .val (.int (1 : Int32)), .val (.long (own_stamp b)), .second, .val (.long incR), .second, .val (.long (own_stamp b)), .second, .val (.ref wq), .val (.ref b1), .val (.ref b2), .val (.int (1 : Int32))]) rfl (q := 183) rfl ?_
          refine g_aload X108 hx (hb hby at_183) (v := (.ref b2)) rfl rfl (q := 185) rfl ?_
          refine g_aload X108 hx (hb hby at_185) (v := (.ref b1)) rfl rfl (q := 187) rfl ?_
          refine g_callV X108 hx hZ108 hown108 (hw _ (List.mem_of_getElem? (i := 47) rfl)) (hw _ (List.mem_of_getElem? (i := 48) rfl)) (hw _ (List.mem_of_getElem? (i := 50) rfl)) (hw _ (List.mem_of_getElem? (i := 49) rfl)) (hw _ (List.mem_of_getElem? (i := 51) rfl)) (hw _ (List.mem_of_getElem? (i := 10) rfl)) (notFace_of_selects (args := #[]) (mvT hZ108 (hw _ (List.mem_of_getElem? (i := 50) rfl)))) (by decide) e108 A108 (rmNm l Z a0 hw b2 b1 (own_stamp b) incR (own_stamp a) incR h108 B108 C108 f112 f113 (1 : Int32) (by simp [(show own_stamp b = own_stamp a from (lw_eq _ _).mp hb160)])) (by exact hml.symm) (argsL := [(.ref b1)]) (rest := []) rfl rfl pd_5 rfl (Nat.le_of_ble_eq_true rfl) (Nat.le_of_ble_eq_true rfl) (Nat.le_of_ble_eq_true rfl) (Nat.le_of_ble_eq_true rfl) (hb hby at_187) (q := 190) rfl (g_pure rfl rfl fun T116 X116 e116 => ?_)
          show Go p e below _ (T116.setTop (mkF m 190 #[.val (.long a), .second, .val (.long b), .second, .val (.long incR), .second, .val (.long incX), .second, .val (.long s6), .second, .val (.int fl), .val (.long (own_stamp a)), .second, .val (.long (own_stamp b)), .second, .val (.int (0 : Int32)), .val (.int (0 : Int32)), .val (.int (1 : Int32)), .val (.long (own_stamp b)), .second, .val (.long incR), .second, .val (.long (own_stamp b)), .second, .val (.ref wq), .val (.ref b1), .val (.ref b2), .val (.int (1 : Int32))] [(.int (1 : Int32))]))
          refine g_iload X116 hx (hb hby at_190) (v := (1 : Int32)) rfl (q := 192) rfl ?_
          refine g_icmp_ne X116 hx (hb hby at_192) (by decide) (q := 199) (by decide) (q2 := 195) rfl (fun hb192 => absurd hb192 (by decide)) (fun hb192 => ?_)
          refine g_iconst X116 hx (hb hby at_195) (n := (1 : Int32)) (by decide) (q := 196) rfl ?_
          refine g_goto X116 hx (hb hby at_196) (by decide) (q := 200) (by decide) ?_
          exact g_retBW X116 hS108 (by rw [e116]; exact (Nat.le_refl _)) hx hret hlk (hb hby at_200) (by decide) ⟨rfl, by simpa using N108⟩ (Nat.le_of_ble_eq_true rfl) (Nat.le_of_ble_eq_true rfl)
    · refine g_iconst X67 hx (hb hby at_33) (n := (1 : Int32)) (by decide) (q := 34) rfl ?_
      refine g_goto X67 hx (hb hby at_34) (by decide) (q := 38) (by decide) ?_
      refine g_istore X67 hx (hb hby at_38) (L' := #[.val (.long a), .second, .val (.long b), .second, .val (.long incR), .second, .val (.long incX), .second, .val (.long s6), .second, .val (.int fl), .val (.long (own_stamp a)), .second, .val (.long (own_stamp b)), .second, .val (.int (0 : Int32)), .val (.int (1 : Int32)), .unset, .unset, .unset, .unset, .unset, .unset, .unset, .unset, .unset, .unset, .unset]) rfl (q := 40) rfl ?_
      refine g_iload X67 hx (hb hby at_40) (v := fl) rfl (q := 42) rfl ?_
      refine g_iconst X67 hx (hb hby at_42) (n := (4 : Int32)) (by decide) (q := 43) rfl ?_
      refine g_iand X67 hx (hb hby at_43) (z := (fl &&& (4 : Int32))) rfl (q := 44) rfl ?_
      refine g_if_eq X67 hx (hb hby at_44) (by decide) (q := 51) (by decide) (q2 := 47) rfl (fun hb44 => ?_) (fun hb44 => ?_)
      · refine g_iconst X67 hx (hb hby at_51) (n := (0 : Int32)) (by decide) (q := 52) rfl ?_
        refine g_istore X67 hx (hb hby at_52) (L' := #[.val (.long a), .second, .val (.long b), .second, .val (.long incR), .second, .val (.long incX), .second, .val (.long s6), .second, .val (.int fl), .val (.long (own_stamp a)), .second, .val (.long (own_stamp b)), .second, .val (.int (0 : Int32)), .val (.int (1 : Int32)), .val (.int (0 : Int32)), .unset, .unset, .unset, .unset, .unset, .unset, .unset, .unset, .unset, .unset]) rfl (q := 54) rfl ?_
        refine g_iload X67 hx (hb hby at_54) (v := (1 : Int32)) rfl (q := 56) rfl ?_
        refine g_if_eq X67 hx (hb hby at_56) (by decide) (q := 64) (by decide) (q2 := 59) rfl (fun hb56 => absurd hb56 (by decide)) (fun hb56 => ?_)
        refine g_lload X67 hx (hb hby at_59) (v := (own_stamp a)) rfl (q := 61) rfl ?_
        refine g_goto X67 hx (hb hby at_61) (by decide) (q := 66) (by decide) ?_
        refine g_lstore X67 hx (hb hby at_66) (L' := #[.val (.long a), .second, .val (.long b), .second, .val (.long incR), .second, .val (.long incX), .second, .val (.long s6), .second, .val (.int fl), .val (.long (own_stamp a)), .second, .val (.long (own_stamp b)), .second, .val (.int (0 : Int32)), .val (.int (1 : Int32)), .val (.int (0 : Int32)), .val (.long (own_stamp a)), .second, .unset, .unset, .unset, .unset, .unset, .unset, .unset, .unset]) rfl (q := 68) rfl ?_
        refine g_iload X67 hx (hb hby at_68) (v := (0 : Int32)) rfl (q := 70) rfl ?_
        refine g_if_eq X67 hx (hb hby at_70) (by decide) (q := 78) (by decide) (q2 := 73) rfl (fun hb70 => ?_) (fun hb70 => absurd hb70 (by decide))
        refine g_lload X67 hx (hb hby at_78) (v := incX) rfl (q := 80) rfl ?_
        refine g_lstore X67 hx (hb hby at_80) (L' := #[.val (.long a), .second, .val (.long b), .second, .val (.long incR), .second, .val (.long incX), .second, .val (.long s6), .second, .val (.int fl), .val (.long (own_stamp a)), .second, .val (.long (own_stamp b)), .second, .val (.int (0 : Int32)), .val (.int (1 : Int32)), .val (.int (0 : Int32)), .val (.long (own_stamp a)), .second, .val (.long incX), .second, .unset, .unset, .unset, .unset, .unset, .unset]) rfl (q := 82) rfl ?_
        refine g_iload X67 hx (hb hby at_82) (v := (0 : Int32)) rfl (q := 84) rfl ?_
        refine g_if_eq X67 hx (hb hby at_84) (by decide) (q := 95) (by decide) (q2 := 87) rfl (fun hb84 => ?_) (fun hb84 => absurd hb84 (by decide))
        refine g_lload X67 hx (hb hby at_95) (v := (own_stamp a)) rfl (q := 97) rfl ?_
        refine g_lstore X67 hx (hb hby at_97) (L' := #[.val (.long a), .second, .val (.long b), .second, .val (.long incR), .second, .val (.long incX), .second, .val (.long s6), .second, .val (.int fl), .val (.long (own_stamp a)), .second, .val (.long (own_stamp b)), .second, .val (.int (0 : Int32)), .val (.int (1 : Int32)), .val (.int (0 : Int32)), .val (.long (own_stamp a)), .second, .val (.long incX), .second, .val (.long (own_stamp a)), .second, .unset, .unset, .unset, .unset]) rfl (q := 99) rfl ?_
        refine g_iload X67 hx (hb hby at_99) (v := (0 : Int32)) rfl (q := 101) rfl ?_
        refine g_if_eq X67 hx (hb hby at_101) (by decide) (q := 110) (by decide) (q2 := 104) rfl (fun hb101 => ?_) (fun hb101 => absurd hb101 (by decide))
        refine g_getS X67 hx hZ hown (hw _ (List.mem_of_getElem? (i := 5) rfl)) Via.refl e67 SQ (hb hby at_110) (q := 113) rfl fun T117 X117 e117 => ?_
        refine g_astore X117 hx (hb hby at_113) rfl (L' := #[.val (.long a), .second, .val (.long b), .second, .val (.long incR), .second, .val (.long incX), .second, .val (.long s6), .second, .val (.int fl), .val (.long (own_stamp a)), .second, .val (.long (own_stamp b)), .second, .val (.int (0 : Int32)), .val (.int (1 : Int32)), .val (.int (0 : Int32)), .val (.long (own_stamp a)), .second, .val (.long incX), .second, .val (.long (own_stamp a)), .second, .val (.ref wq), .unset, .unset, .unset]) rfl (q := 115) rfl ?_
        refine g_new X117 hx hZ hown (hw _ (List.mem_of_getElem? (i := 8) rfl)) (hw _ (List.mem_of_getElem? (i := 9) rfl)) (hw _ (List.mem_of_getElem? (i := 10) rfl)) e117 (hb hby at_115) (Nat.le_of_ble_eq_true rfl) (Nat.le_of_ble_eq_true rfl) (q := 118) rfl fun T118 h118 b1 g118 X118 e118 E118 A118 D118 => ?_
        have ge_b1 : n0 ≤ b1 := Nat.le_trans Z0 (Nat.le_of_eq g118.symm)
        have z_118 := Nat.le_trans Z0 E118.1
        have hk_118 := Nat.le_trans hk E118.1
        have f119 := (SQ.ext E118)
        have f120 := (SP.ext E118)
        have F118_type : Fld Z h118 b1 "com/example/bullyring/bullyring/core/mutex/RicartAgrawalaMessage" "type" "Lcom/example/bullyring/bullyring/core/mutex/RicartAgrawalaMessage$Type;" .null := D118 (Or.inr (hw _ (List.mem_of_getElem? (i := 40) rfl))) (ty := (.object "com/example/bullyring/bullyring/core/mutex/RicartAgrawalaMessage$Type")) (by decide)
        have F118_stamp : Fld Z h118 b1 "com/example/bullyring/bullyring/core/mutex/RicartAgrawalaMessage" "stamp" "J" (.long (0 : Int64)) := D118 (Or.inr (hw _ (List.mem_of_getElem? (i := 42) rfl))) (ty := .long) (by decide)
        have F118_requestStamp : Fld Z h118 b1 "com/example/bullyring/bullyring/core/mutex/RicartAgrawalaMessage" "requestStamp" "J" (.long (0 : Int64)) := D118 (Or.inr (hw _ (List.mem_of_getElem? (i := 44) rfl))) (ty := .long) (by decide)
        have F118_incarnation : Fld Z h118 b1 "com/example/bullyring/bullyring/core/mutex/RicartAgrawalaMessage" "incarnation" "J" (.long (0 : Int64)) := D118 (Or.inr (hw _ (List.mem_of_getElem? (i := 46) rfl))) (ty := .long) (by decide)
        refine g_dup X118 hx (hb hby at_118) rfl (q := 119) rfl ?_
        refine g_getS X118 hx hZ hown (hw _ (List.mem_of_getElem? (i := 5) rfl)) Via.refl e118 f119 (hb hby at_119) (q := 122) rfl fun T121 X121 e121 => ?_
        refine g_lload X121 hx (hb hby at_122) (v := (own_stamp a)) rfl (q := 124) rfl ?_
        refine g_lload X121 hx (hb hby at_124) (v := (own_stamp a)) rfl (q := 126) rfl ?_
        refine g_lload X121 hx (hb hby at_126) (v := incR) rfl (q := 128) rfl ?_
        refine g_callIW X121 hx hZ hown rfl (hw _ (List.mem_of_getElem? (i := 11) rfl)) (hw _ (List.mem_of_getElem? (i := 12) rfl)) (hw _ (List.mem_of_getElem? (i := 13) rfl)) (hw _ (List.mem_of_getElem? (i := 10) rfl)) (by decide) e121 hS hk_118 (b := b1) (rmC l Z a0 hw b1 wq wq (own_stamp a) (own_stamp a) incR (own_stamp_ok _) (own_stamp_ok _) (fun _ => rfl) h118 n0 ge_b1 f119 A118 F118_type F118_stamp F118_requestStamp F118_incarnation) (by exact hml.symm) (argsL := [(.ref wq), (.long (own_stamp a)), (.long (own_stamp a)), (.long incR)]) (rest := [(.ref b1)]) rfl rfl pd_4 rfl (Nat.le_of_ble_eq_true rfl) (Nat.le_of_ble_eq_true rfl) (Nat.le_of_ble_eq_true rfl) (Nat.le_of_ble_eq_true rfl) (hb hby at_128) (q := 131) rfl fun v122 T122 L122 h122 e122 X122 hS122 hZ122 hown122 hQ122 => ?_
        obtain ⟨rfl, M122, K122, A122, B122, C122⟩ := hQ122
        have N122 := Fr.app (Fr.nil n0) M122
        have z_122 := Nat.le_trans z_118 K122.1
        have f123 := (own_sta_keep f119 K122 (nsS A118.nostat ns0))
        have f124 := (own_sta_keep f120 K122 (nsS A118.nostat ns0))
        have f125 := (A118.keep K122)
        show Go p e below _ (T122.setTop (mkF m 131 #[.val (.long a), .second, .val (.long b), .second, .val (.long incR), .second, .val (.long incX), .second, .val (.long s6), .second, .val (.int fl), .val (.long (own_stamp a)), .second, .val (.long (own_stamp b)), .second, .val (.int (0 : Int32)), .val (.int (1 : Int32)), .val (.int (0 : Int32)), .val (.long (own_stamp a)), .second, .val (.long incX), .second, .val (.long (own_stamp a)), .second, .val (.ref wq), .unset, .unset, .unset] [(.ref b1)]))
        refine g_astore X122 hx (hb hby at_131) rfl (L' := #[.val (.long a), .second, .val (.long b), .second, .val (.long incR), .second, .val (.long incX), .second, .val (.long s6), .second, .val (.int fl), .val (.long (own_stamp a)), .second, .val (.long (own_stamp b)), .second, .val (.int (0 : Int32)), .val (.int (1 : Int32)), .val (.int (0 : Int32)), .val (.long (own_stamp a)), .second, .val (.long incX), .second, .val (.long (own_stamp a)), .second, .val (.ref wq), .val (.ref b1), .unset, .unset]) rfl (q := 133) rfl ?_
        refine g_new X122 hx hZ122 hown122 (hw _ (List.mem_of_getElem? (i := 8) rfl)) (hw _ (List.mem_of_getElem? (i := 9) rfl)) (hw _ (List.mem_of_getElem? (i := 10) rfl)) e122 (hb hby at_133) (Nat.le_of_ble_eq_true rfl) (Nat.le_of_ble_eq_true rfl) (q := 136) rfl fun T126 h126 b2 g126 X126 e126 E126 A126 D126 => ?_
        have ne_b1_b2 : b1 ≠ b2 := Nat.ne_of_lt (Nat.lt_of_lt_of_le A122.lt (Nat.le_of_eq g126.symm))
        have ge_b2 : n0 ≤ b2 := Nat.le_trans z_122 (Nat.le_of_eq g126.symm)
        have z_126 := Nat.le_trans z_122 E126.1
        have hk_126 := Nat.le_trans (Nat.le_refl _) E126.1
        have f127 := (f123.ext E126)
        have f128 := (f124.ext E126)
        have f129 := (A122.ext E126)
        have f130 := (B122.ext E126)
        have f131 := (C122.ext E126)
        have F126_type : Fld Z h126 b2 "com/example/bullyring/bullyring/core/mutex/RicartAgrawalaMessage" "type" "Lcom/example/bullyring/bullyring/core/mutex/RicartAgrawalaMessage$Type;" .null := D126 (Or.inr (hw _ (List.mem_of_getElem? (i := 40) rfl))) (ty := (.object "com/example/bullyring/bullyring/core/mutex/RicartAgrawalaMessage$Type")) (by decide)
        have F126_stamp : Fld Z h126 b2 "com/example/bullyring/bullyring/core/mutex/RicartAgrawalaMessage" "stamp" "J" (.long (0 : Int64)) := D126 (Or.inr (hw _ (List.mem_of_getElem? (i := 42) rfl))) (ty := .long) (by decide)
        have F126_requestStamp : Fld Z h126 b2 "com/example/bullyring/bullyring/core/mutex/RicartAgrawalaMessage" "requestStamp" "J" (.long (0 : Int64)) := D126 (Or.inr (hw _ (List.mem_of_getElem? (i := 44) rfl))) (ty := .long) (by decide)
        have F126_incarnation : Fld Z h126 b2 "com/example/bullyring/bullyring/core/mutex/RicartAgrawalaMessage" "incarnation" "J" (.long (0 : Int64)) := D126 (Or.inr (hw _ (List.mem_of_getElem? (i := 46) rfl))) (ty := .long) (by decide)
        refine g_dup X126 hx (hb hby at_136) rfl (q := 137) rfl ?_
        refine g_aload X126 hx (hb hby at_137) (v := (.ref wq)) rfl rfl (q := 139) rfl ?_
        refine g_lload X126 hx (hb hby at_139) (v := (own_stamp a)) rfl (q := 141) rfl ?_
        refine g_lload X126 hx (hb hby at_141) (v := (own_stamp a)) rfl (q := 143) rfl ?_
        refine g_lload X126 hx (hb hby at_143) (v := incX) rfl (q := 145) rfl ?_
        refine g_callIW X126 hx hZ122 hown122 rfl (hw _ (List.mem_of_getElem? (i := 11) rfl)) (hw _ (List.mem_of_getElem? (i := 12) rfl)) (hw _ (List.mem_of_getElem? (i := 13) rfl)) (hw _ (List.mem_of_getElem? (i := 10) rfl)) (by decide) e126 hS122 hk_126 (b := b2) (rmC l Z a0 hw b2 wq wq (own_stamp a) (own_stamp a) incX (own_stamp_ok _) (own_stamp_ok _) (fun _ => rfl) h126 n0 ge_b2 f127 A126 F126_type F126_stamp F126_requestStamp F126_incarnation) (by exact hml.symm) (argsL := [(.ref wq), (.long (own_stamp a)), (.long (own_stamp a)), (.long incX)]) (rest := [(.ref b2)]) rfl rfl pd_4 rfl (Nat.le_of_ble_eq_true rfl) (Nat.le_of_ble_eq_true rfl) (Nat.le_of_ble_eq_true rfl) (Nat.le_of_ble_eq_true rfl) (hb hby at_145) (q := 148) rfl fun v132 T132 L132 h132 e132 X132 hS132 hZ132 hown132 hQ132 => ?_
        obtain ⟨rfl, M132, K132, A132, B132, C132⟩ := hQ132
        have N132 := Fr.app N122 M132
        have z_132 := Nat.le_trans z_126 K132.1
        have f133 := (own_sta_keep f127 K132 (nsS A126.nostat ns0))
        have f134 := (own_sta_keep f128 K132 (nsS A126.nostat ns0))
        have f135 := (f129.keep K132)
        have f136 := (f130.keep K132 (ninS ne_b1_b2 nin0))
        have f137 := (f131.keep K132 (ninS ne_b1_b2 nin0))
        have f138 := (A126.keep K132)
        show Go p e below _ (T132.setTop (mkF m 148 #[.val (.long a), .second, .val (.long b), .second, .val (.long incR), .second, .val (.long incX), .second, .val (.long s6), .second, .val (.int fl), .val (.long (own_stamp a)), .second, .val (.long (own_stamp b)), .second, .val (.int (0 : Int32)), .val (.int (1 : Int32)), .val (.int (0 : Int32)), .val (.long (own_stamp a)), .second, .val (.long incX), .second, .val (.long (own_stamp a)), .second, .val (.ref wq), .val (.ref b1), .unset, .unset] [(.ref b2)]))
        refine g_astore X132 hx (hb hby at_148) rfl (L' := #[.val (.long a), .second, .val (.long b), .second, .val (.long incR), .second, .val (.long incX), .second, .val (.long s6), .second, .val (.int fl), .val (.long (own_stamp a)), .second, .val (.long (own_stamp b)), .second, .val (.int (0 : Int32)), .val (.int (1 : Int32)), .val (.int (0 : Int32)), .val (.long (own_stamp a)), .second, .val (.long incX), .second, .val (.long (own_stamp a)), .second, .val (.ref wq), .val (.ref b1), .val (.ref b2), .unset]) rfl (q := 150) rfl ?_
        refine g_iload X132 hx (hb hby at_150) (v := (1 : Int32)) rfl (q := 152) rfl ?_
        refine g_if_ne X132 hx (hb hby at_152) (by decide) (q := 163) (by decide) (q2 := 155) rfl (fun hb152 => ?_) (fun hb152 => absurd hb152 (by decide))
        refine g_iload X132 hx (hb hby at_163) (v := (0 : Int32)) rfl (q := 165) rfl ?_
        refine g_if_ne X132 hx (hb hby at_165) (by decide) (q := 176) (by decide) (q2 := 168) rfl (fun hb165 => absurd hb165 (by decide)) (fun hb165 => ?_)
        refine g_lload X132 hx (hb hby at_168) (v := incX) rfl (q := 170) rfl ?_
        refine g_lload X132 hx (hb hby at_170) (v := incR) rfl (q := 172) rfl ?_
        refine g_lcmp X132 hx (hb hby at_172) (z := (lcmpW incX incR)) rfl (q := 173) rfl ?_
        refine g_if_ne X132 hx (hb hby at_173) (by decide) (q := 180) (by decide) (q2 := 176) rfl (fun hb173 => ?_) (fun hb173 => ?_)
        · refine g_iconst X132 hx (hb hby at_180) (n := (0 : Int32)) (by decide) (q := 181) rfl ?_
          refine g_istore X132 hx (hb hby at_181) (L' := #[.val (.long a), .second, .val (.long b), .second, .val (.long incR), .second, .val (.long incX), .second, .val (.long s6), .second, .val (.int fl), .val (.long (own_stamp a)), .second, .val (.long (own_stamp b)), .second, .val (.int (0 : Int32)), .val (.int (1 : Int32)), .val (.int (0 : Int32)), .val (.long (own_stamp a)), .second, .val (.long incX), .second, .val (.long (own_stamp a)), .second, .val (.ref wq), .val (.ref b1), .val (.ref b2), .val (.int (0 : Int32))]) rfl (q := 183) rfl ?_
          refine g_aload X132 hx (hb hby at_183) (v := (.ref b2)) rfl rfl (q := 185) rfl ?_
          refine g_aload X132 hx (hb hby at_185) (v := (.ref b1)) rfl rfl (q := 187) rfl ?_
          refine g_callV X132 hx hZ132 hown132 (hw _ (List.mem_of_getElem? (i := 47) rfl)) (hw _ (List.mem_of_getElem? (i := 48) rfl)) (hw _ (List.mem_of_getElem? (i := 50) rfl)) (hw _ (List.mem_of_getElem? (i := 49) rfl)) (hw _ (List.mem_of_getElem? (i := 51) rfl)) (hw _ (List.mem_of_getElem? (i := 10) rfl)) (notFace_of_selects (args := #[]) (mvT hZ132 (hw _ (List.mem_of_getElem? (i := 50) rfl)))) (by decide) e132 A132 (rmNm l Z a0 hw b2 b1 (own_stamp a) incX (own_stamp a) incR h132 B132 C132 f136 f137 (0 : Int32) (by simp [(show ¬ incX = incR from fun q => hb173 ((lw_eq _ _).mpr q))])) (by exact hml.symm) (argsL := [(.ref b1)]) (rest := []) rfl rfl pd_5 rfl (Nat.le_of_ble_eq_true rfl) (Nat.le_of_ble_eq_true rfl) (Nat.le_of_ble_eq_true rfl) (Nat.le_of_ble_eq_true rfl) (hb hby at_187) (q := 190) rfl (g_pure rfl rfl fun T139 X139 e139 => ?_)
          show Go p e below _ (T139.setTop (mkF m 190 #[.val (.long a), .second, .val (.long b), .second, .val (.long incR), .second, .val (.long incX), .second, .val (.long s6), .second, .val (.int fl), .val (.long (own_stamp a)), .second, .val (.long (own_stamp b)), .second, .val (.int (0 : Int32)), .val (.int (1 : Int32)), .val (.int (0 : Int32)), .val (.long (own_stamp a)), .second, .val (.long incX), .second, .val (.long (own_stamp a)), .second, .val (.ref wq), .val (.ref b1), .val (.ref b2), .val (.int (0 : Int32))] [(.int (0 : Int32))]))
          refine g_iload X139 hx (hb hby at_190) (v := (0 : Int32)) rfl (q := 192) rfl ?_
          refine g_icmp_ne X139 hx (hb hby at_192) (by decide) (q := 199) (by decide) (q2 := 195) rfl (fun hb192 => absurd hb192 (by decide)) (fun hb192 => ?_)
          refine g_iconst X139 hx (hb hby at_195) (n := (1 : Int32)) (by decide) (q := 196) rfl ?_
          refine g_goto X139 hx (hb hby at_196) (by decide) (q := 200) (by decide) ?_
          exact g_retBW X139 hS132 (by rw [e139]; exact (Nat.le_refl _)) hx hret hlk (hb hby at_200) (by decide) ⟨rfl, by simpa using N132⟩ (Nat.le_of_ble_eq_true rfl) (Nat.le_of_ble_eq_true rfl)
        · refine g_iconst X132 hx (hb hby at_176) (n := (1 : Int32)) (by decide) (q := 177) rfl ?_
          refine g_goto X132 hx (hb hby at_177) (by decide) (q := 181) (by decide) ?_
          refine g_istore X132 hx (hb hby at_181) (L' := #[.val (.long a), .second, .val (.long b), .second, .val (.long incR), .second, .val (.long incX), .second, .val (.long s6), .second, .val (.int fl), .val (.long (own_stamp a)), .second, .val (.long (own_stamp b)), .second, .val (.int (0 : Int32)), .val (.int (1 : Int32)), .val (.int (0 : Int32)), .val (.long (own_stamp a)), .second, .val (.long incX), .second, .val (.long (own_stamp a)), .second, .val (.ref wq), .val (.ref b1), .val (.ref b2), .val (.int (1 : Int32))]) rfl (q := 183) rfl ?_
          refine g_aload X132 hx (hb hby at_183) (v := (.ref b2)) rfl rfl (q := 185) rfl ?_
          refine g_aload X132 hx (hb hby at_185) (v := (.ref b1)) rfl rfl (q := 187) rfl ?_
          refine g_callV X132 hx hZ132 hown132 (hw _ (List.mem_of_getElem? (i := 47) rfl)) (hw _ (List.mem_of_getElem? (i := 48) rfl)) (hw _ (List.mem_of_getElem? (i := 50) rfl)) (hw _ (List.mem_of_getElem? (i := 49) rfl)) (hw _ (List.mem_of_getElem? (i := 51) rfl)) (hw _ (List.mem_of_getElem? (i := 10) rfl)) (notFace_of_selects (args := #[]) (mvT hZ132 (hw _ (List.mem_of_getElem? (i := 50) rfl)))) (by decide) e132 A132 (rmNm l Z a0 hw b2 b1 (own_stamp a) incX (own_stamp a) incR h132 B132 C132 f136 f137 (1 : Int32) (by simp [(show incX = incR from (lw_eq _ _).mp hb173)])) (by exact hml.symm) (argsL := [(.ref b1)]) (rest := []) rfl rfl pd_5 rfl (Nat.le_of_ble_eq_true rfl) (Nat.le_of_ble_eq_true rfl) (Nat.le_of_ble_eq_true rfl) (Nat.le_of_ble_eq_true rfl) (hb hby at_187) (q := 190) rfl (g_pure rfl rfl fun T140 X140 e140 => ?_)
          show Go p e below _ (T140.setTop (mkF m 190 #[.val (.long a), .second, .val (.long b), .second, .val (.long incR), .second, .val (.long incX), .second, .val (.long s6), .second, .val (.int fl), .val (.long (own_stamp a)), .second, .val (.long (own_stamp b)), .second, .val (.int (0 : Int32)), .val (.int (1 : Int32)), .val (.int (0 : Int32)), .val (.long (own_stamp a)), .second, .val (.long incX), .second, .val (.long (own_stamp a)), .second, .val (.ref wq), .val (.ref b1), .val (.ref b2), .val (.int (1 : Int32))] [(.int (1 : Int32))]))
          refine g_iload X140 hx (hb hby at_190) (v := (1 : Int32)) rfl (q := 192) rfl ?_
          refine g_icmp_ne X140 hx (hb hby at_192) (by decide) (q := 199) (by decide) (q2 := 195) rfl (fun hb192 => absurd hb192 (by decide)) (fun hb192 => ?_)
          refine g_iconst X140 hx (hb hby at_195) (n := (1 : Int32)) (by decide) (q := 196) rfl ?_
          refine g_goto X140 hx (hb hby at_196) (by decide) (q := 200) (by decide) ?_
          exact g_retBW X140 hS132 (by rw [e140]; exact (Nat.le_refl _)) hx hret hlk (hb hby at_200) (by decide) ⟨rfl, by simpa using N132⟩ (Nat.le_of_ble_eq_true rfl) (Nat.le_of_ble_eq_true rfl)
      · refine g_iconst X67 hx (hb hby at_47) (n := (1 : Int32)) (by decide) (q := 48) rfl ?_
        refine g_goto X67 hx (hb hby at_48) (by decide) (q := 52) (by decide) ?_
        refine g_istore X67 hx (hb hby at_52) (L' := #[.val (.long a), .second, .val (.long b), .second, .val (.long incR), .second, .val (.long incX), .second, .val (.long s6), .second, .val (.int fl), .val (.long (own_stamp a)), .second, .val (.long (own_stamp b)), .second, .val (.int (0 : Int32)), .val (.int (1 : Int32)), .val (.int (1 : Int32)), .unset, .unset, .unset, .unset, .unset, .unset, .unset, .unset, .unset, .unset]) rfl (q := 54) rfl ?_
        refine g_iload X67 hx (hb hby at_54) (v := (1 : Int32)) rfl (q := 56) rfl ?_
        refine g_if_eq X67 hx (hb hby at_56) (by decide) (q := 64) (by decide) (q2 := 59) rfl (fun hb56 => absurd hb56 (by decide)) (fun hb56 => ?_)
        refine g_lload X67 hx (hb hby at_59) (v := (own_stamp a)) rfl (q := 61) rfl ?_
        refine g_goto X67 hx (hb hby at_61) (by decide) (q := 66) (by decide) ?_
        refine g_lstore X67 hx (hb hby at_66) (L' := #[.val (.long a), .second, .val (.long b), .second, .val (.long incR), .second, .val (.long incX), .second, .val (.long s6), .second, .val (.int fl), .val (.long (own_stamp a)), .second, .val (.long (own_stamp b)), .second, .val (.int (0 : Int32)), .val (.int (1 : Int32)), .val (.int (1 : Int32)), .val (.long (own_stamp a)), .second, .unset, .unset, .unset, .unset, .unset, .unset, .unset, .unset]) rfl (q := 68) rfl ?_
        refine g_iload X67 hx (hb hby at_68) (v := (1 : Int32)) rfl (q := 70) rfl ?_
        refine g_if_eq X67 hx (hb hby at_70) (by decide) (q := 78) (by decide) (q2 := 73) rfl (fun hb70 => absurd hb70 (by decide)) (fun hb70 => ?_)
        refine g_lload X67 hx (hb hby at_73) (v := incR) rfl (q := 75) rfl ?_
        refine g_goto X67 hx (hb hby at_75) (by decide) (q := 80) (by decide) ?_
        refine g_lstore X67 hx (hb hby at_80) (L' := #[.val (.long a), .second, .val (.long b), .second, .val (.long incR), .second, .val (.long incX), .second, .val (.long s6), .second, .val (.int fl), .val (.long (own_stamp a)), .second, .val (.long (own_stamp b)), .second, .val (.int (0 : Int32)), .val (.int (1 : Int32)), .val (.int (1 : Int32)), .val (.long (own_stamp a)), .second, .val (.long incR), .second, .unset, .unset, .unset, .unset, .unset, .unset]) rfl (q := 82) rfl ?_
        refine g_iload X67 hx (hb hby at_82) (v := (0 : Int32)) rfl (q := 84) rfl ?_
        refine g_if_eq X67 hx (hb hby at_84) (by decide) (q := 95) (by decide) (q2 := 87) rfl (fun hb84 => ?_) (fun hb84 => absurd hb84 (by decide))
        refine g_lload X67 hx (hb hby at_95) (v := (own_stamp a)) rfl (q := 97) rfl ?_
        refine g_lstore X67 hx (hb hby at_97) (L' := #[.val (.long a), .second, .val (.long b), .second, .val (.long incR), .second, .val (.long incX), .second, .val (.long s6), .second, .val (.int fl), .val (.long (own_stamp a)), .second, .val (.long (own_stamp b)), .second, .val (.int (0 : Int32)), .val (.int (1 : Int32)), .val (.int (1 : Int32)), .val (.long (own_stamp a)), .second, .val (.long incR), .second, .val (.long (own_stamp a)), .second, .unset, .unset, .unset, .unset]) rfl (q := 99) rfl ?_
        refine g_iload X67 hx (hb hby at_99) (v := (0 : Int32)) rfl (q := 101) rfl ?_
        refine g_if_eq X67 hx (hb hby at_101) (by decide) (q := 110) (by decide) (q2 := 104) rfl (fun hb101 => ?_) (fun hb101 => absurd hb101 (by decide))
        refine g_getS X67 hx hZ hown (hw _ (List.mem_of_getElem? (i := 5) rfl)) Via.refl e67 SQ (hb hby at_110) (q := 113) rfl fun T141 X141 e141 => ?_
        refine g_astore X141 hx (hb hby at_113) rfl (L' := #[.val (.long a), .second, .val (.long b), .second, .val (.long incR), .second, .val (.long incX), .second, .val (.long s6), .second, .val (.int fl), .val (.long (own_stamp a)), .second, .val (.long (own_stamp b)), .second, .val (.int (0 : Int32)), .val (.int (1 : Int32)), .val (.int (1 : Int32)), .val (.long (own_stamp a)), .second, .val (.long incR), .second, .val (.long (own_stamp a)), .second, .val (.ref wq), .unset, .unset, .unset]) rfl (q := 115) rfl ?_
        refine g_new X141 hx hZ hown (hw _ (List.mem_of_getElem? (i := 8) rfl)) (hw _ (List.mem_of_getElem? (i := 9) rfl)) (hw _ (List.mem_of_getElem? (i := 10) rfl)) e141 (hb hby at_115) (Nat.le_of_ble_eq_true rfl) (Nat.le_of_ble_eq_true rfl) (q := 118) rfl fun T142 h142 b1 g142 X142 e142 E142 A142 D142 => ?_
        have ge_b1 : n0 ≤ b1 := Nat.le_trans Z0 (Nat.le_of_eq g142.symm)
        have z_142 := Nat.le_trans Z0 E142.1
        have hk_142 := Nat.le_trans hk E142.1
        have f143 := (SQ.ext E142)
        have f144 := (SP.ext E142)
        have F142_type : Fld Z h142 b1 "com/example/bullyring/bullyring/core/mutex/RicartAgrawalaMessage" "type" "Lcom/example/bullyring/bullyring/core/mutex/RicartAgrawalaMessage$Type;" .null := D142 (Or.inr (hw _ (List.mem_of_getElem? (i := 40) rfl))) (ty := (.object "com/example/bullyring/bullyring/core/mutex/RicartAgrawalaMessage$Type")) (by decide)
        have F142_stamp : Fld Z h142 b1 "com/example/bullyring/bullyring/core/mutex/RicartAgrawalaMessage" "stamp" "J" (.long (0 : Int64)) := D142 (Or.inr (hw _ (List.mem_of_getElem? (i := 42) rfl))) (ty := .long) (by decide)
        have F142_requestStamp : Fld Z h142 b1 "com/example/bullyring/bullyring/core/mutex/RicartAgrawalaMessage" "requestStamp" "J" (.long (0 : Int64)) := D142 (Or.inr (hw _ (List.mem_of_getElem? (i := 44) rfl))) (ty := .long) (by decide)
        have F142_incarnation : Fld Z h142 b1 "com/example/bullyring/bullyring/core/mutex/RicartAgrawalaMessage" "incarnation" "J" (.long (0 : Int64)) := D142 (Or.inr (hw _ (List.mem_of_getElem? (i := 46) rfl))) (ty := .long) (by decide)
        refine g_dup X142 hx (hb hby at_118) rfl (q := 119) rfl ?_
        refine g_getS X142 hx hZ hown (hw _ (List.mem_of_getElem? (i := 5) rfl)) Via.refl e142 f143 (hb hby at_119) (q := 122) rfl fun T145 X145 e145 => ?_
        refine g_lload X145 hx (hb hby at_122) (v := (own_stamp a)) rfl (q := 124) rfl ?_
        refine g_lload X145 hx (hb hby at_124) (v := (own_stamp a)) rfl (q := 126) rfl ?_
        refine g_lload X145 hx (hb hby at_126) (v := incR) rfl (q := 128) rfl ?_
        refine g_callIW X145 hx hZ hown rfl (hw _ (List.mem_of_getElem? (i := 11) rfl)) (hw _ (List.mem_of_getElem? (i := 12) rfl)) (hw _ (List.mem_of_getElem? (i := 13) rfl)) (hw _ (List.mem_of_getElem? (i := 10) rfl)) (by decide) e145 hS hk_142 (b := b1) (rmC l Z a0 hw b1 wq wq (own_stamp a) (own_stamp a) incR (own_stamp_ok _) (own_stamp_ok _) (fun _ => rfl) h142 n0 ge_b1 f143 A142 F142_type F142_stamp F142_requestStamp F142_incarnation) (by exact hml.symm) (argsL := [(.ref wq), (.long (own_stamp a)), (.long (own_stamp a)), (.long incR)]) (rest := [(.ref b1)]) rfl rfl pd_4 rfl (Nat.le_of_ble_eq_true rfl) (Nat.le_of_ble_eq_true rfl) (Nat.le_of_ble_eq_true rfl) (Nat.le_of_ble_eq_true rfl) (hb hby at_128) (q := 131) rfl fun v146 T146 L146 h146 e146 X146 hS146 hZ146 hown146 hQ146 => ?_
        obtain ⟨rfl, M146, K146, A146, B146, C146⟩ := hQ146
        have N146 := Fr.app (Fr.nil n0) M146
        have z_146 := Nat.le_trans z_142 K146.1
        have f147 := (own_sta_keep f143 K146 (nsS A142.nostat ns0))
        have f148 := (own_sta_keep f144 K146 (nsS A142.nostat ns0))
        have f149 := (A142.keep K146)
        show Go p e below _ (T146.setTop (mkF m 131 #[.val (.long a), .second, .val (.long b), .second, .val (.long incR), .second, .val (.long incX), .second, .val (.long s6), .second, .val (.int fl), .val (.long (own_stamp a)), .second, .val (.long (own_stamp b)), .second, .val (.int (0 : Int32)), .val (.int (1 : Int32)), .val (.int (1 : Int32)), .val (.long (own_stamp a)), .second, .val (.long incR), .second, .val (.long (own_stamp a)), .second, .val (.ref wq), .unset, .unset, .unset] [(.ref b1)]))
        refine g_astore X146 hx (hb hby at_131) rfl (L' := #[.val (.long a), .second, .val (.long b), .second, .val (.long incR), .second, .val (.long incX), .second, .val (.long s6), .second, .val (.int fl), .val (.long (own_stamp a)), .second, .val (.long (own_stamp b)), .second, .val (.int (0 : Int32)), .val (.int (1 : Int32)), .val (.int (1 : Int32)), .val (.long (own_stamp a)), .second, .val (.long incR), .second, .val (.long (own_stamp a)), .second, .val (.ref wq), .val (.ref b1), .unset, .unset]) rfl (q := 133) rfl ?_
        refine g_new X146 hx hZ146 hown146 (hw _ (List.mem_of_getElem? (i := 8) rfl)) (hw _ (List.mem_of_getElem? (i := 9) rfl)) (hw _ (List.mem_of_getElem? (i := 10) rfl)) e146 (hb hby at_133) (Nat.le_of_ble_eq_true rfl) (Nat.le_of_ble_eq_true rfl) (q := 136) rfl fun T150 h150 b2 g150 X150 e150 E150 A150 D150 => ?_
        have ne_b1_b2 : b1 ≠ b2 := Nat.ne_of_lt (Nat.lt_of_lt_of_le A146.lt (Nat.le_of_eq g150.symm))
        have ge_b2 : n0 ≤ b2 := Nat.le_trans z_146 (Nat.le_of_eq g150.symm)
        have z_150 := Nat.le_trans z_146 E150.1
        have hk_150 := Nat.le_trans (Nat.le_refl _) E150.1
        have f151 := (f147.ext E150)
        have f152 := (f148.ext E150)
        have f153 := (A146.ext E150)
        have f154 := (B146.ext E150)
        have f155 := (C146.ext E150)
        have F150_type : Fld Z h150 b2 "com/example/bullyring/bullyring/core/mutex/RicartAgrawalaMessage" "type" "Lcom/example/bullyring/bullyring/core/mutex/RicartAgrawalaMessage$Type;" .null := D150 (Or.inr (hw _ (List.mem_of_getElem? (i := 40) rfl))) (ty := (.object "com/example/bullyring/bullyring/core/mutex/RicartAgrawalaMessage$Type")) (by decide)
        have F150_stamp : Fld Z h150 b2 "com/example/bullyring/bullyring/core/mutex/RicartAgrawalaMessage" "stamp" "J" (.long (0 : Int64)) := D150 (Or.inr (hw _ (List.mem_of_getElem? (i := 42) rfl))) (ty := .long) (by decide)
        have F150_requestStamp : Fld Z h150 b2 "com/example/bullyring/bullyring/core/mutex/RicartAgrawalaMessage" "requestStamp" "J" (.long (0 : Int64)) := D150 (Or.inr (hw _ (List.mem_of_getElem? (i := 44) rfl))) (ty := .long) (by decide)
        have F150_incarnation : Fld Z h150 b2 "com/example/bullyring/bullyring/core/mutex/RicartAgrawalaMessage" "incarnation" "J" (.long (0 : Int64)) := D150 (Or.inr (hw _ (List.mem_of_getElem? (i := 46) rfl))) (ty := .long) (by decide)
        refine g_dup X150 hx (hb hby at_136) rfl (q := 137) rfl ?_
        refine g_aload X150 hx (hb hby at_137) (v := (.ref wq)) rfl rfl (q := 139) rfl ?_
        refine g_lload X150 hx (hb hby at_139) (v := (own_stamp a)) rfl (q := 141) rfl ?_
        refine g_lload X150 hx (hb hby at_141) (v := (own_stamp a)) rfl (q := 143) rfl ?_
        refine g_lload X150 hx (hb hby at_143) (v := incR) rfl (q := 145) rfl ?_
        refine g_callIW X150 hx hZ146 hown146 rfl (hw _ (List.mem_of_getElem? (i := 11) rfl)) (hw _ (List.mem_of_getElem? (i := 12) rfl)) (hw _ (List.mem_of_getElem? (i := 13) rfl)) (hw _ (List.mem_of_getElem? (i := 10) rfl)) (by decide) e150 hS146 hk_150 (b := b2) (rmC l Z a0 hw b2 wq wq (own_stamp a) (own_stamp a) incR (own_stamp_ok _) (own_stamp_ok _) (fun _ => rfl) h150 n0 ge_b2 f151 A150 F150_type F150_stamp F150_requestStamp F150_incarnation) (by exact hml.symm) (argsL := [(.ref wq), (.long (own_stamp a)), (.long (own_stamp a)), (.long incR)]) (rest := [(.ref b2)]) rfl rfl pd_4 rfl (Nat.le_of_ble_eq_true rfl) (Nat.le_of_ble_eq_true rfl) (Nat.le_of_ble_eq_true rfl) (Nat.le_of_ble_eq_true rfl) (hb hby at_145) (q := 148) rfl fun v156 T156 L156 h156 e156 X156 hS156 hZ156 hown156 hQ156 => ?_
        obtain ⟨rfl, M156, K156, A156, B156, C156⟩ := hQ156
        have N156 := Fr.app N146 M156
        have z_156 := Nat.le_trans z_150 K156.1
        have f157 := (own_sta_keep f151 K156 (nsS A150.nostat ns0))
        have f158 := (own_sta_keep f152 K156 (nsS A150.nostat ns0))
        have f159 := (f153.keep K156)
        have f160 := (f154.keep K156 (ninS ne_b1_b2 nin0))
        have f161 := (f155.keep K156 (ninS ne_b1_b2 nin0))
        have f162 := (A150.keep K156)
        show Go p e below _ (T156.setTop (mkF m 148 #[.val (.long a), .second, .val (.long b), .second, .val (.long incR), .second, .val (.long incX), .second, .val (.long s6), .second, .val (.int fl), .val (.long (own_stamp a)), .second, .val (.long (own_stamp b)), .second, .val (.int (0 : Int32)), .val (.int (1 : Int32)), .val (.int (1 : Int32)), .val (.long (own_stamp a)), .second, .val (.long incR), .second, .val (.long (own_stamp a)), .second, .val (.ref wq), .val (.ref b1), .unset, .unset] [(.ref b2)]))
        refine g_astore X156 hx (hb hby at_148) rfl (L' := #[.val (.long a), .second, .val (.long b), .second, .val (.long incR), .second, .val (.long incX), .second, .val (.long s6), .second, .val (.int fl), .val (.long (own_stamp a)), .second, .val (.long (own_stamp b)), .second, .val (.int (0 : Int32)), .val (.int (1 : Int32)), .val (.int (1 : Int32)), .val (.long (own_stamp a)), .second, .val (.long incR), .second, .val (.long (own_stamp a)), .second, .val (.ref wq), .val (.ref b1), .val (.ref b2), .unset]) rfl (q := 150) rfl ?_
        refine g_iload X156 hx (hb hby at_150) (v := (1 : Int32)) rfl (q := 152) rfl ?_
        refine g_if_ne X156 hx (hb hby at_152) (by decide) (q := 163) (by decide) (q2 := 155) rfl (fun hb152 => ?_) (fun hb152 => absurd hb152 (by decide))
        refine g_iload X156 hx (hb hby at_163) (v := (1 : Int32)) rfl (q := 165) rfl ?_
        refine g_if_ne X156 hx (hb hby at_165) (by decide) (q := 176) (by decide) (q2 := 168) rfl (fun hb165 => ?_) (fun hb165 => absurd hb165 (by decide))
        refine g_iconst X156 hx (hb hby at_176) (n := (1 : Int32)) (by decide) (q := 177) rfl ?_
        refine g_goto X156 hx (hb hby at_177) (by decide) (q := 181) (by decide) ?_
        refine g_istore X156 hx (hb hby at_181) (L' := #[.val (.long a), .second, .val (.long b), .second, .val (.long incR), .second, .val (.long incX), .second, .val (.long s6), .second, .val (.int fl), .val (.long (own_stamp a)), .second, .val (.long (own_stamp b)), .second, .val (.int (0 : Int32)), .val (.int (1 : Int32)), .val (.int (1 : Int32)), .val (.long (own_stamp a)), .second, .val (.long incR), .second, .val (.long (own_stamp a)), .second, .val (.ref wq), .val (.ref b1), .val (.ref b2), .val (.int (1 : Int32))]) rfl (q := 183) rfl ?_
        refine g_aload X156 hx (hb hby at_183) (v := (.ref b2)) rfl rfl (q := 185) rfl ?_
        refine g_aload X156 hx (hb hby at_185) (v := (.ref b1)) rfl rfl (q := 187) rfl ?_
        refine g_callV X156 hx hZ156 hown156 (hw _ (List.mem_of_getElem? (i := 47) rfl)) (hw _ (List.mem_of_getElem? (i := 48) rfl)) (hw _ (List.mem_of_getElem? (i := 50) rfl)) (hw _ (List.mem_of_getElem? (i := 49) rfl)) (hw _ (List.mem_of_getElem? (i := 51) rfl)) (hw _ (List.mem_of_getElem? (i := 10) rfl)) (notFace_of_selects (args := #[]) (mvT hZ156 (hw _ (List.mem_of_getElem? (i := 50) rfl)))) (by decide) e156 A156 (rmNm l Z a0 hw b2 b1 (own_stamp a) incR (own_stamp a) incR h156 B156 C156 f160 f161 (1 : Int32) (by simp)) (by exact hml.symm) (argsL := [(.ref b1)]) (rest := []) rfl rfl pd_5 rfl (Nat.le_of_ble_eq_true rfl) (Nat.le_of_ble_eq_true rfl) (Nat.le_of_ble_eq_true rfl) (Nat.le_of_ble_eq_true rfl) (hb hby at_187) (q := 190) rfl (g_pure rfl rfl fun T163 X163 e163 => ?_)
        show Go p e below _ (T163.setTop (mkF m 190 #[.val (.long a), .second, .val (.long b), .second, .val (.long incR), .second, .val (.long incX), .second, .val (.long s6), .second, .val (.int fl), .val (.long (own_stamp a)), .second, .val (.long (own_stamp b)), .second, .val (.int (0 : Int32)), .val (.int (1 : Int32)), .val (.int (1 : Int32)), .val (.long (own_stamp a)), .second, .val (.long incR), .second, .val (.long (own_stamp a)), .second, .val (.ref wq), .val (.ref b1), .val (.ref b2), .val (.int (1 : Int32))] [(.int (1 : Int32))]))
        refine g_iload X163 hx (hb hby at_190) (v := (1 : Int32)) rfl (q := 192) rfl ?_
        refine g_icmp_ne X163 hx (hb hby at_192) (by decide) (q := 199) (by decide) (q2 := 195) rfl (fun hb192 => absurd hb192 (by decide)) (fun hb192 => ?_)
        refine g_iconst X163 hx (hb hby at_195) (n := (1 : Int32)) (by decide) (q := 196) rfl ?_
        refine g_goto X163 hx (hb hby at_196) (by decide) (q := 200) (by decide) ?_
        exact g_retBW X163 hS156 (by rw [e163]; exact (Nat.le_refl _)) hx hret hlk (hb hby at_200) (by decide) ⟨rfl, by simpa using N156⟩ (Nat.le_of_ble_eq_true rfl) (Nat.le_of_ble_eq_true rfl)
  · refine g_iconst X67 hx (hb hby at_19) (n := (1 : Int32)) (by decide) (q := 20) rfl ?_
    refine g_goto X67 hx (hb hby at_20) (by decide) (q := 24) (by decide) ?_
    refine g_istore X67 hx (hb hby at_24) (L' := #[.val (.long a), .second, .val (.long b), .second, .val (.long incR), .second, .val (.long incX), .second, .val (.long s6), .second, .val (.int fl), .val (.long (own_stamp a)), .second, .val (.long (own_stamp b)), .second, .val (.int (1 : Int32)), .unset, .unset, .unset, .unset, .unset, .unset, .unset, .unset, .unset, .unset, .unset, .unset]) rfl (q := 26) rfl ?_
    refine g_iload X67 hx (hb hby at_26) (v := fl) rfl (q := 28) rfl ?_
    refine g_iconst X67 hx (hb hby at_28) (n := (2 : Int32)) (by decide) (q := 29) rfl ?_
    refine g_iand X67 hx (hb hby at_29) (z := (fl &&& (2 : Int32))) rfl (q := 30) rfl ?_
    refine g_if_eq X67 hx (hb hby at_30) (by decide) (q := 37) (by decide) (q2 := 33) rfl (fun hb30 => ?_) (fun hb30 => ?_)
    · refine g_iconst X67 hx (hb hby at_37) (n := (0 : Int32)) (by decide) (q := 38) rfl ?_
      refine g_istore X67 hx (hb hby at_38) (L' := #[.val (.long a), .second, .val (.long b), .second, .val (.long incR), .second, .val (.long incX), .second, .val (.long s6), .second, .val (.int fl), .val (.long (own_stamp a)), .second, .val (.long (own_stamp b)), .second, .val (.int (1 : Int32)), .val (.int (0 : Int32)), .unset, .unset, .unset, .unset, .unset, .unset, .unset, .unset, .unset, .unset, .unset]) rfl (q := 40) rfl ?_
      refine g_iload X67 hx (hb hby at_40) (v := fl) rfl (q := 42) rfl ?_
      refine g_iconst X67 hx (hb hby at_42) (n := (4 : Int32)) (by decide) (q := 43) rfl ?_
      refine g_iand X67 hx (hb hby at_43) (z := (fl &&& (4 : Int32))) rfl (q := 44) rfl ?_
      refine g_if_eq X67 hx (hb hby at_44) (by decide) (q := 51) (by decide) (q2 := 47) rfl (fun hb44 => ?_) (fun hb44 => ?_)
      · refine g_iconst X67 hx (hb hby at_51) (n := (0 : Int32)) (by decide) (q := 52) rfl ?_
        refine g_istore X67 hx (hb hby at_52) (L' := #[.val (.long a), .second, .val (.long b), .second, .val (.long incR), .second, .val (.long incX), .second, .val (.long s6), .second, .val (.int fl), .val (.long (own_stamp a)), .second, .val (.long (own_stamp b)), .second, .val (.int (1 : Int32)), .val (.int (0 : Int32)), .val (.int (0 : Int32)), .unset, .unset, .unset, .unset, .unset, .unset, .unset, .unset, .unset, .unset]) rfl (q := 54) rfl ?_
        refine g_iload X67 hx (hb hby at_54) (v := (0 : Int32)) rfl (q := 56) rfl ?_
        refine g_if_eq X67 hx (hb hby at_56) (by decide) (q := 64) (by decide) (q2 := 59) rfl (fun hb56 => ?_) (fun hb56 => absurd hb56 (by decide))
        refine g_lload X67 hx (hb hby at_64) (v := (own_stamp b)) rfl (q := 66) rfl ?_
        refine g_lstore X67 hx (hb hby at_66) (L' := #[.val (.long a), .second, .val (.long b), .second, .val (.long incR), .second, .val (.long incX), .second, .val (.long s6), .second, .val (.int fl), .val (.long (own_stamp a)), .second, .val (.long (own_stamp b)), .second, .val (.int (1 : Int32)), .val (.int (0 : Int32)), .val (.int (0 : Int32)), .val (.long (own_stamp b)), .second, .unset, .unset, .unset, .unset, .unset, .unset, .unset, .unset]) rfl (q := 68) rfl ?_
        refine g_iload X67 hx (hb hby at_68) (v := (0 : Int32)) rfl (q := 70) rfl ?_
        refine g_if_eq X67 hx (hb hby at_70) (by decide) (q := 78) (by decide) (q2 := 73) rfl (fun hb70 => ?_) (fun hb70 => absurd hb70 (by decide))
        refine g_lload X67 hx (hb hby at_78) (v := incX) rfl (q := 80) rfl ?_
        refine g_lstore X67 hx (hb hby at_80) (L' := #[.val (.long a), .second, .val (.long b), .second, .val (.long incR), .second, .val (.long incX), .second, .val (.long s6), .second, .val (.int fl), .val (.long (own_stamp a)), .second, .val (.long (own_stamp b)), .second, .val (.int (1 : Int32)), .val (.int (0 : Int32)), .val (.int (0 : Int32)), .val (.long (own_stamp b)), .second, .val (.long incX), .second, .unset, .unset, .unset, .unset, .unset, .unset]) rfl (q := 82) rfl ?_
        refine g_iload X67 hx (hb hby at_82) (v := (1 : Int32)) rfl (q := 84) rfl ?_
        refine g_if_eq X67 hx (hb hby at_84) (by decide) (q := 95) (by decide) (q2 := 87) rfl (fun hb84 => absurd hb84 (by decide)) (fun hb84 => ?_)
        refine g_lload X67 hx (hb hby at_87) (v := s6) rfl (q := 89) rfl ?_
        refine g_callS X67 hx hZ hown (hw _ (List.mem_of_getElem? (i := 0) rfl)) (hw _ (List.mem_of_getElem? (i := 1) rfl)) (hw _ (List.mem_of_getElem? (i := 2) rfl)) (hw _ (List.mem_of_getElem? (i := 3) rfl)) (by decide) e67 (rmS l Z a0 hw s6 h0) (by exact hml.symm) (argsL := [(.long s6)]) (rest := []) rfl rfl pd_3 rfl (Nat.le_of_ble_eq_true rfl) (Nat.le_of_ble_eq_true rfl) (Nat.le_of_ble_eq_true rfl) (Nat.le_of_ble_eq_true rfl) (hb hby at_89) (q := 92) rfl (g_pure rfl rfl fun T164 X164 e164 => ?_)
        show Go p e below _ (T164.setTop (mkF m 92 #[.val (.long a), .second, .val (.long b), .second, .val (.long incR), .second, .val (.long incX), .second, .val (.long s6), .second, .val (.int fl), .val (.long (own_stamp a)), .second, .val (.long (own_stamp b)), .second, .val (.int (1 : Int32)), .val (.int (0 : Int32)), .val (.int (0 : Int32)), .val (.long (own_stamp b)), .second, .val (.long incX), .second, .unset, .unset, .unset, .unset, .unset, .unset] [(.long (own_stamp s6))]))
        refine g_goto X164 hx (hb hby at_92) (by decide) (q := 97) (by decide) ?_
        refine g_lstore X164 hx (hb hby at_97) (L' := #[.val (.long a), .second, .val (.long b), .second, .val (.long incR), .second, .val (.long incX), .second, .val (.long s6), .second, .val (.int fl), .val (.long (own_stamp a)), .second, .val (.long (own_stamp b)), .second, .val (.int (1 : Int32)), .val (.int (0 : Int32)), .val (.int (0 : Int32)), .val (.long (own_stamp b)), .second, .val (.long incX), .second, .val (.long (own_stamp s6)), .second, .unset, .unset, .unset, .unset]) rfl (q := 99) rfl ?_
        refine g_iload X164 hx (hb hby at_99) (v := (1 : Int32)) rfl (q := 101) rfl ?_
        refine g_if_eq X164 hx (hb hby at_101) (by decide) (q := 110) (by decide) (q2 := 104) rfl (fun hb101 => absurd hb101 (by decide)) (fun hb101 => ?_)
        refine g_getS X164 hx hZ hown (hw _ (List.mem_of_getElem? (i := 52) rfl)) Via.refl e164 SP (hb hby at_104) (q := 107) rfl fun T165 X165 e165 => ?_
        refine g_goto X165 hx (hb hby at_107) (by decide) (q := 113) (by decide) ?_
        refine g_astore X165 hx (hb hby at_113) rfl (L' := #[.val (.long a), .second, .val (.long b), .second, .val (.long incR), .second, .val (.long incX), .second, .val (.long s6), .second, .val (.int fl), .val (.long (own_stamp a)), .second, .val (.long (own_stamp b)), .second, .val (.int (1 : Int32)), .val (.int (0 : Int32)), .val (.int (0 : Int32)), .val (.long (own_stamp b)), .second, .val (.long incX), .second, .val (.long (own_stamp s6)), .second, .val (.ref wp), .unset, .unset, .unset]) rfl (q := 115) rfl ?_
        refine g_new X165 hx hZ hown (hw _ (List.mem_of_getElem? (i := 8) rfl)) (hw _ (List.mem_of_getElem? (i := 9) rfl)) (hw _ (List.mem_of_getElem? (i := 10) rfl)) e165 (hb hby at_115) (Nat.le_of_ble_eq_true rfl) (Nat.le_of_ble_eq_true rfl) (q := 118) rfl fun T166 h166 b1 g166 X166 e166 E166 A166 D166 => ?_
        have ge_b1 : n0 ≤ b1 := Nat.le_trans Z0 (Nat.le_of_eq g166.symm)
        have z_166 := Nat.le_trans Z0 E166.1
        have hk_166 := Nat.le_trans hk E166.1
        have f167 := (SQ.ext E166)
        have f168 := (SP.ext E166)
        have F166_type : Fld Z h166 b1 "com/example/bullyring/bullyring/core/mutex/RicartAgrawalaMessage" "type" "Lcom/example/bullyring/bullyring/core/mutex/RicartAgrawalaMessage$Type;" .null := D166 (Or.inr (hw _ (List.mem_of_getElem? (i := 40) rfl))) (ty := (.object "com/example/bullyring/bullyring/core/mutex/RicartAgrawalaMessage$Type")) (by decide)
        have F166_stamp : Fld Z h166 b1 "com/example/bullyring/bullyring/core/mutex/RicartAgrawalaMessage" "stamp" "J" (.long (0 : Int64)) := D166 (Or.inr (hw _ (List.mem_of_getElem? (i := 42) rfl))) (ty := .long) (by decide)
        have F166_requestStamp : Fld Z h166 b1 "com/example/bullyring/bullyring/core/mutex/RicartAgrawalaMessage" "requestStamp" "J" (.long (0 : Int64)) := D166 (Or.inr (hw _ (List.mem_of_getElem? (i := 44) rfl))) (ty := .long) (by decide)
        have F166_incarnation : Fld Z h166 b1 "com/example/bullyring/bullyring/core/mutex/RicartAgrawalaMessage" "incarnation" "J" (.long (0 : Int64)) := D166 (Or.inr (hw _ (List.mem_of_getElem? (i := 46) rfl))) (ty := .long) (by decide)
        refine g_dup X166 hx (hb hby at_118) rfl (q := 119) rfl ?_
        refine g_getS X166 hx hZ hown (hw _ (List.mem_of_getElem? (i := 5) rfl)) Via.refl e166 f167 (hb hby at_119) (q := 122) rfl fun T169 X169 e169 => ?_
        refine g_lload X169 hx (hb hby at_122) (v := (own_stamp a)) rfl (q := 124) rfl ?_
        refine g_lload X169 hx (hb hby at_124) (v := (own_stamp a)) rfl (q := 126) rfl ?_
        refine g_lload X169 hx (hb hby at_126) (v := incR) rfl (q := 128) rfl ?_
        refine g_callIW X169 hx hZ hown rfl (hw _ (List.mem_of_getElem? (i := 11) rfl)) (hw _ (List.mem_of_getElem? (i := 12) rfl)) (hw _ (List.mem_of_getElem? (i := 13) rfl)) (hw _ (List.mem_of_getElem? (i := 10) rfl)) (by decide) e169 hS hk_166 (b := b1) (rmC l Z a0 hw b1 wq wq (own_stamp a) (own_stamp a) incR (own_stamp_ok _) (own_stamp_ok _) (fun _ => rfl) h166 n0 ge_b1 f167 A166 F166_type F166_stamp F166_requestStamp F166_incarnation) (by exact hml.symm) (argsL := [(.ref wq), (.long (own_stamp a)), (.long (own_stamp a)), (.long incR)]) (rest := [(.ref b1)]) rfl rfl pd_4 rfl (Nat.le_of_ble_eq_true rfl) (Nat.le_of_ble_eq_true rfl) (Nat.le_of_ble_eq_true rfl) (Nat.le_of_ble_eq_true rfl) (hb hby at_128) (q := 131) rfl fun v170 T170 L170 h170 e170 X170 hS170 hZ170 hown170 hQ170 => ?_
        obtain ⟨rfl, M170, K170, A170, B170, C170⟩ := hQ170
        have N170 := Fr.app (Fr.nil n0) M170
        have z_170 := Nat.le_trans z_166 K170.1
        have f171 := (own_sta_keep f167 K170 (nsS A166.nostat ns0))
        have f172 := (own_sta_keep f168 K170 (nsS A166.nostat ns0))
        have f173 := (A166.keep K170)
        show Go p e below _ (T170.setTop (mkF m 131 #[.val (.long a), .second, .val (.long b), .second, .val (.long incR), .second, .val (.long incX), .second, .val (.long s6), .second, .val (.int fl), .val (.long (own_stamp a)), .second, .val (.long (own_stamp b)), .second, .val (.int (1 : Int32)), .val (.int (0 : Int32)), .val (.int (0 : Int32)), .val (.long (own_stamp b)), .second, .val (.long incX), .second, .val (.long (own_stamp s6)), .second, .val (.ref wp), .unset, .unset, .unset] [(.ref b1)]))
        refine g_astore X170 hx (hb hby at_131) rfl (L' := #[.val (.long a), .second, .val (.long b), .second, .val (.long incR), .second, .val (.long incX), .second, .val (.long s6), .second, .val (.int fl), .val (.long (own_stamp a)), .second, .val (.long (own_stamp b)), .second, .val (.int (1 : Int32)), .val (.int (0 : Int32)), .val (.int (0 : Int32)), .val (.long (own_stamp b)), .second, .val (.long incX), .second, .val (.long (own_stamp s6)), .second, .val (.ref wp), .val (.ref b1), .unset, .unset]) rfl (q := 133) rfl ?_
        refine g_new X170 hx hZ170 hown170 (hw _ (List.mem_of_getElem? (i := 8) rfl)) (hw _ (List.mem_of_getElem? (i := 9) rfl)) (hw _ (List.mem_of_getElem? (i := 10) rfl)) e170 (hb hby at_133) (Nat.le_of_ble_eq_true rfl) (Nat.le_of_ble_eq_true rfl) (q := 136) rfl fun T174 h174 b2 g174 X174 e174 E174 A174 D174 => ?_
        have ne_b1_b2 : b1 ≠ b2 := Nat.ne_of_lt (Nat.lt_of_lt_of_le A170.lt (Nat.le_of_eq g174.symm))
        have ge_b2 : n0 ≤ b2 := Nat.le_trans z_170 (Nat.le_of_eq g174.symm)
        have z_174 := Nat.le_trans z_170 E174.1
        have hk_174 := Nat.le_trans (Nat.le_refl _) E174.1
        have f175 := (f171.ext E174)
        have f176 := (f172.ext E174)
        have f177 := (A170.ext E174)
        have f178 := (B170.ext E174)
        have f179 := (C170.ext E174)
        have F174_type : Fld Z h174 b2 "com/example/bullyring/bullyring/core/mutex/RicartAgrawalaMessage" "type" "Lcom/example/bullyring/bullyring/core/mutex/RicartAgrawalaMessage$Type;" .null := D174 (Or.inr (hw _ (List.mem_of_getElem? (i := 40) rfl))) (ty := (.object "com/example/bullyring/bullyring/core/mutex/RicartAgrawalaMessage$Type")) (by decide)
        have F174_stamp : Fld Z h174 b2 "com/example/bullyring/bullyring/core/mutex/RicartAgrawalaMessage" "stamp" "J" (.long (0 : Int64)) := D174 (Or.inr (hw _ (List.mem_of_getElem? (i := 42) rfl))) (ty := .long) (by decide)
        have F174_requestStamp : Fld Z h174 b2 "com/example/bullyring/bullyring/core/mutex/RicartAgrawalaMessage" "requestStamp" "J" (.long (0 : Int64)) := D174 (Or.inr (hw _ (List.mem_of_getElem? (i := 44) rfl))) (ty := .long) (by decide)
        have F174_incarnation : Fld Z h174 b2 "com/example/bullyring/bullyring/core/mutex/RicartAgrawalaMessage" "incarnation" "J" (.long (0 : Int64)) := D174 (Or.inr (hw _ (List.mem_of_getElem? (i := 46) rfl))) (ty := .long) (by decide)
        refine g_dup X174 hx (hb hby at_136) rfl (q := 137) rfl ?_
        refine g_aload X174 hx (hb hby at_137) (v := (.ref wp)) rfl rfl (q := 139) rfl ?_
        refine g_lload X174 hx (hb hby at_139) (v := (own_stamp s6)) rfl (q := 141) rfl ?_
        refine g_lload X174 hx (hb hby at_141) (v := (own_stamp b)) rfl (q := 143) rfl ?_
        refine g_lload X174 hx (hb hby at_143) (v := incX) rfl (q := 145) rfl ?_
        refine g_callIW X174 hx hZ170 hown170 rfl (hw _ (List.mem_of_getElem? (i := 11) rfl)) (hw _ (List.mem_of_getElem? (i := 12) rfl)) (hw _ (List.mem_of_getElem? (i := 13) rfl)) (hw _ (List.mem_of_getElem? (i := 10) rfl)) (by decide) e174 hS170 hk_174 (b := b2) (rmC l Z a0 hw b2 wp wq (own_stamp s6) (own_stamp b) incX (own_stamp_ok _) (own_stamp_ok _) (fun q => absurd q.symm nw) h174 n0 ge_b2 f175 A174 F174_type F174_stamp F174_requestStamp F174_incarnation) (by exact hml.symm) (argsL := [(.ref wp), (.long (own_stamp s6)), (.long (own_stamp b)), (.long incX)]) (rest := [(.ref b2)]) rfl rfl pd_4 rfl (Nat.le_of_ble_eq_true rfl) (Nat.le_of_ble_eq_true rfl) (Nat.le_of_ble_eq_true rfl) (Nat.le_of_ble_eq_true rfl) (hb hby at_145) (q := 148) rfl fun v180 T180 L180 h180 e180 X180 hS180 hZ180 hown180 hQ180 => ?_
        obtain ⟨rfl, M180, K180, A180, B180, C180⟩ := hQ180
        have N180 := Fr.app N170 M180
        have z_180 := Nat.le_trans z_174 K180.1
        have f181 := (own_sta_keep f175 K180 (nsS A174.nostat ns0))
        have f182 := (own_sta_keep f176 K180 (nsS A174.nostat ns0))
        have f183 := (f177.keep K180)
        have f184 := (f178.keep K180 (ninS ne_b1_b2 nin0))
        have f185 := (f179.keep K180 (ninS ne_b1_b2 nin0))
        have f186 := (A174.keep K180)
        show Go p e below _ (T180.setTop (mkF m 148 #[.val (.long a), .second, .val (.long b), .second, .val (.long incR), .second, .val (.long incX), .second, .val (.long s6), .second, .val (.int fl), .val (.long (own_stamp a)), .second, .val (.long (own_stamp b)), .second, .val (.int (1 : Int32)), .val (.int (0 : Int32)), .val (.int (0 : Int32)), .val (.long (own_stamp b)), .second, .val (.long incX), .second, .val (.long (own_stamp s6)), .second, .val (.ref wp), .val (.ref b1), .unset, .unset] [(.ref b2)]))
        refine g_astore X180 hx (hb hby at_148) rfl (L' := #[.val (.long a), .second, .val (.long b), .second, .val (.long incR), .second, .val (.long incX), .second, .val (.long s6), .second, .val (.int fl), .val (.long (own_stamp a)), .second, .val (.long (own_stamp b)), .second, .val (.int (1 : Int32)), .val (.int (0 : Int32)), .val (.int (0 : Int32)), .val (.long (own_stamp b)), .second, .val (.long incX), .second, .val (.long (own_stamp s6)), .second, .val (.ref wp), .val (.ref b1), .val (.ref b2), .unset]) rfl (q := 150) rfl ?_
        refine g_iload X180 hx (hb hby at_150) (v := (0 : Int32)) rfl (q := 152) rfl ?_
        refine g_if_ne X180 hx (hb hby at_152) (by decide) (q := 163) (by decide) (q2 := 155) rfl (fun hb152 => absurd hb152 (by decide)) (fun hb152 => ?_)
        refine g_lload X180 hx (hb hby at_155) (v := (own_stamp b)) rfl (q := 157) rfl ?_
        refine g_lload X180 hx (hb hby at_157) (v := (own_stamp a)) rfl (q := 159) rfl ?_
        refine g_lcmp X180 hx (hb hby at_159) (z := (lcmpW (own_stamp b) (own_stamp a))) rfl (q := 160) rfl ?_
        refine g_if_ne X180 hx (hb hby at_160) (by decide) (q := 180) (by decide) (q2 := 163) rfl (fun hb160 => ?_) (fun hb160 => ?_)
        · refine g_iconst X180 hx (hb hby at_180) (n := (0 : Int32)) (by decide) (q := 181) rfl ?_
          refine g_istore X180 hx (hb hby at_181) (L' := #[.val (.long a), .second, .val (.long b), .second, .val (.long incR), .second, .val (.long incX), .second, .val (.long s6), .second, .val (.int fl), .val (.long (own_stamp a)), .second, .val (.long (own_stamp b)), .second, .val (.int (1 : Int32)), .val (.int (0 : Int32)), .val (.int (0 : Int32)), .val (.long (own_stamp b)), .second, .val (.long incX), .second, .val (.long (own_stamp s6)), .second, .val (.ref wp), .val (.ref b1), .val (.ref b2), .val (.int (0 : Int32))]) rfl (q := 183) rfl ?_
          refine g_aload X180 hx (hb hby at_183) (v := (.ref b2)) rfl rfl (q := 185) rfl ?_
          refine g_aload X180 hx (hb hby at_185) (v := (.ref b1)) rfl rfl (q := 187) rfl ?_
          refine g_callV X180 hx hZ180 hown180 (hw _ (List.mem_of_getElem? (i := 47) rfl)) (hw _ (List.mem_of_getElem? (i := 48) rfl)) (hw _ (List.mem_of_getElem? (i := 50) rfl)) (hw _ (List.mem_of_getElem? (i := 49) rfl)) (hw _ (List.mem_of_getElem? (i := 51) rfl)) (hw _ (List.mem_of_getElem? (i := 10) rfl)) (notFace_of_selects (args := #[]) (mvT hZ180 (hw _ (List.mem_of_getElem? (i := 50) rfl)))) (by decide) e180 A180 (rmNm l Z a0 hw b2 b1 (own_stamp b) incX (own_stamp a) incR h180 B180 C180 f184 f185 (0 : Int32) (by simp [(show ¬ own_stamp b = own_stamp a from fun q => hb160 ((lw_eq _ _).mpr q))])) (by exact hml.symm) (argsL := [(.ref b1)]) (rest := []) rfl rfl pd_5 rfl (Nat.le_of_ble_eq_true rfl) (Nat.le_of_ble_eq_true rfl) (Nat.le_of_ble_eq_true rfl) (Nat.le_of_ble_eq_true rfl) (hb hby at_187) (q := 190) rfl (g_pure rfl rfl fun T187 X187 e187 => ?_)
          show Go p e below _ (T187.setTop (mkF m 190 #[.val (.long a), .second, .val (.long b), .second, .val (.long incR), .second, .val (.long incX), .second, .val (.long s6), .second, .val (.int fl), .val (.long (own_stamp a)), .second, .val (.long (own_stamp b)), .second, .val (.int (1 : Int32)), .val (.int (0 : Int32)), .val (.int (0 : Int32)), .val (.long (own_stamp b)), .second, .val (.long incX), .second, .val (.long (own_stamp s6)), .second, .val (.ref wp), .val (.ref b1), .val (.ref b2), .val (.int (0 : Int32))] [(.int (0 : Int32))]))
          refine g_iload X187 hx (hb hby at_190) (v := (0 : Int32)) rfl (q := 192) rfl ?_
          refine g_icmp_ne X187 hx (hb hby at_192) (by decide) (q := 199) (by decide) (q2 := 195) rfl (fun hb192 => absurd hb192 (by decide)) (fun hb192 => ?_)
          refine g_iconst X187 hx (hb hby at_195) (n := (1 : Int32)) (by decide) (q := 196) rfl ?_
          refine g_goto X187 hx (hb hby at_196) (by decide) (q := 200) (by decide) ?_
          exact g_retBW X187 hS180 (by rw [e187]; exact (Nat.le_refl _)) hx hret hlk (hb hby at_200) (by decide) ⟨rfl, by simpa using N180⟩ (Nat.le_of_ble_eq_true rfl) (Nat.le_of_ble_eq_true rfl)
        · refine g_iload X180 hx (hb hby at_163) (v := (0 : Int32)) rfl (q := 165) rfl ?_
          refine g_if_ne X180 hx (hb hby at_165) (by decide) (q := 176) (by decide) (q2 := 168) rfl (fun hb165 => absurd hb165 (by decide)) (fun hb165 => ?_)
          refine g_lload X180 hx (hb hby at_168) (v := incX) rfl (q := 170) rfl ?_
          refine g_lload X180 hx (hb hby at_170) (v := incR) rfl (q := 172) rfl ?_
          refine g_lcmp X180 hx (hb hby at_172) (z := (lcmpW incX incR)) rfl (q := 173) rfl ?_
          refine g_if_ne X180 hx (hb hby at_173) (by decide) (q := 180) (by decide) (q2 := 176) rfl (fun hb173 => ?_) (fun hb173 => ?_)
          · refine g_iconst X180 hx (hb hby at_180) (n := (0 : Int32)) (by decide) (q := 181) rfl ?_
            refine g_istore X180 hx (hb hby at_181) (L' := #[.val (.long a), .second, .val (.long b), .second, .val (.long incR), .second, .val (.long incX), .second, .val (.long s6), .second, .val (.int fl), .val (.long (own_stamp a)), .second, .val (.long (own_stamp b)), .second, .val (.int (1 : Int32)), .val (.int (0 : Int32)), .val (.int (0 : Int32)), .val (.long (own_stamp b)), .second, .val (.long incX), .second, .val (.long (own_stamp s6)), .second, .val (.ref wp), .val (.ref b1), .val (.ref b2), .val (.int (0 : Int32))]) rfl (q := 183) rfl ?_
            refine g_aload X180 hx (hb hby at_183) (v := (.ref b2)) rfl rfl (q := 185) rfl ?_
            refine g_aload X180 hx (hb hby at_185) (v := (.ref b1)) rfl rfl (q := 187) rfl ?_
            refine g_callV X180 hx hZ180 hown180 (hw _ (List.mem_of_getElem? (i := 47) rfl)) (hw _ (List.mem_of_getElem? (i := 48) rfl)) (hw _ (List.mem_of_getElem? (i := 50) rfl)) (hw _ (List.mem_of_getElem? (i := 49) rfl)) (hw _ (List.mem_of_getElem? (i := 51) rfl)) (hw _ (List.mem_of_getElem? (i := 10) rfl)) (notFace_of_selects (args := #[]) (mvT hZ180 (hw _ (List.mem_of_getElem? (i := 50) rfl)))) (by decide) e180 A180 (rmNm l Z a0 hw b2 b1 (own_stamp b) incX (own_stamp a) incR h180 B180 C180 f184 f185 (0 : Int32) (by simp [(show own_stamp b = own_stamp a from (lw_eq _ _).mp hb160), (show ¬ incX = incR from fun q => hb173 ((lw_eq _ _).mpr q))])) (by exact hml.symm) (argsL := [(.ref b1)]) (rest := []) rfl rfl pd_5 rfl (Nat.le_of_ble_eq_true rfl) (Nat.le_of_ble_eq_true rfl) (Nat.le_of_ble_eq_true rfl) (Nat.le_of_ble_eq_true rfl) (hb hby at_187) (q := 190) rfl (g_pure rfl rfl fun T188 X188 e188 => ?_)
            show Go p e below _ (T188.setTop (mkF m 190 #[.val (.long a), .second, .val (.long b), .second, .val (.long incR), .second, .val (.long incX), .second, .val (.long s6), .second, .val (.int fl), .val (.long (own_stamp a)), .second, .val (.long (own_stamp b)), .second, .val (.int (1 : Int32)), .val (.int (0 : Int32)), .val (.int (0 : Int32)), .val (.long (own_stamp b)), .second, .val (.long incX), .second, .val (.long (own_stamp s6)), .second, .val (.ref wp), .val (.ref b1), .val (.ref b2), .val (.int (0 : Int32))] [(.int (0 : Int32))]))
            refine g_iload X188 hx (hb hby at_190) (v := (0 : Int32)) rfl (q := 192) rfl ?_
            refine g_icmp_ne X188 hx (hb hby at_192) (by decide) (q := 199) (by decide) (q2 := 195) rfl (fun hb192 => absurd hb192 (by decide)) (fun hb192 => ?_)
            refine g_iconst X188 hx (hb hby at_195) (n := (1 : Int32)) (by decide) (q := 196) rfl ?_
            refine g_goto X188 hx (hb hby at_196) (by decide) (q := 200) (by decide) ?_
            exact g_retBW X188 hS180 (by rw [e188]; exact (Nat.le_refl _)) hx hret hlk (hb hby at_200) (by decide) ⟨rfl, by simpa using N180⟩ (Nat.le_of_ble_eq_true rfl) (Nat.le_of_ble_eq_true rfl)
          · refine g_iconst X180 hx (hb hby at_176) (n := (1 : Int32)) (by decide) (q := 177) rfl ?_
            refine g_goto X180 hx (hb hby at_177) (by decide) (q := 181) (by decide) ?_
            refine g_istore X180 hx (hb hby at_181) (L' := #[.val (.long a), .second, .val (.long b), .second, .val (.long incR), .second, .val (.long incX), .second, .val (.long s6), .second, .val (.int fl), .val (.long (own_stamp a)), .second, .val (.long (own_stamp b)), .second, .val (.int (1 : Int32)), .val (.int (0 : Int32)), .val (.int (0 : Int32)), .val (.long (own_stamp b)), .second, .val (.long incX), .second, .val (.long (own_stamp s6)), .second, .val (.ref wp), .val (.ref b1), .val (.ref b2), .val (.int (1 : Int32))]) rfl (q := 183) rfl ?_
            refine g_aload X180 hx (hb hby at_183) (v := (.ref b2)) rfl rfl (q := 185) rfl ?_
            refine g_aload X180 hx (hb hby at_185) (v := (.ref b1)) rfl rfl (q := 187) rfl ?_
            refine g_callV X180 hx hZ180 hown180 (hw _ (List.mem_of_getElem? (i := 47) rfl)) (hw _ (List.mem_of_getElem? (i := 48) rfl)) (hw _ (List.mem_of_getElem? (i := 50) rfl)) (hw _ (List.mem_of_getElem? (i := 49) rfl)) (hw _ (List.mem_of_getElem? (i := 51) rfl)) (hw _ (List.mem_of_getElem? (i := 10) rfl)) (notFace_of_selects (args := #[]) (mvT hZ180 (hw _ (List.mem_of_getElem? (i := 50) rfl)))) (by decide) e180 A180 (rmNm l Z a0 hw b2 b1 (own_stamp b) incX (own_stamp a) incR h180 B180 C180 f184 f185 (1 : Int32) (by simp [(show own_stamp b = own_stamp a from (lw_eq _ _).mp hb160), (show incX = incR from (lw_eq _ _).mp hb173)])) (by exact hml.symm) (argsL := [(.ref b1)]) (rest := []) rfl rfl pd_5 rfl (Nat.le_of_ble_eq_true rfl) (Nat.le_of_ble_eq_true rfl) (Nat.le_of_ble_eq_true rfl) (Nat.le_of_ble_eq_true rfl) (hb hby at_187) (q := 190) rfl (g_pure rfl rfl fun T189 X189 e189 => ?_)
            show Go p e below _ (T189.setTop (mkF m 190 #[.val (.long a), .second, .val (.long b), .second, .val (.long incR), .second, .val (.long incX), .second, .val (.long s6), .second, .val (.int fl), .val (.long (own_stamp a)), .second, .val (.long (own_stamp b)), .second, .val (.int (1 : Int32)), .val (.int (0 : Int32)), .val (.int (0 : Int32)), .val (.long (own_stamp b)), .second, .val (.long incX), .second, .val (.long (own_stamp s6)), .second, .val (.ref wp), .val (.ref b1), .val (.ref b2), .val (.int (1 : Int32))] [(.int (1 : Int32))]))
            refine g_iload X189 hx (hb hby at_190) (v := (1 : Int32)) rfl (q := 192) rfl ?_
            refine g_icmp_ne X189 hx (hb hby at_192) (by decide) (q := 199) (by decide) (q2 := 195) rfl (fun hb192 => absurd hb192 (by decide)) (fun hb192 => ?_)
            refine g_iconst X189 hx (hb hby at_195) (n := (1 : Int32)) (by decide) (q := 196) rfl ?_
            refine g_goto X189 hx (hb hby at_196) (by decide) (q := 200) (by decide) ?_
            exact g_retBW X189 hS180 (by rw [e189]; exact (Nat.le_refl _)) hx hret hlk (hb hby at_200) (by decide) ⟨rfl, by simpa using N180⟩ (Nat.le_of_ble_eq_true rfl) (Nat.le_of_ble_eq_true rfl)
      · refine g_iconst X67 hx (hb hby at_47) (n := (1 : Int32)) (by decide) (q := 48) rfl ?_
        refine g_goto X67 hx (hb hby at_48) (by decide) (q := 52) (by decide) ?_
        refine g_istore X67 hx (hb hby at_52) (L' := #[.val (.long a), .second, .val (.long b), .second, .val (.long incR), .second, .val (.long incX), .second, .val (.long s6), .second, .val (.int fl), .val (.long (own_stamp a)), .second, .val (.long (own_stamp b)), .second, .val (.int (1 : Int32)), .val (.int (0 : Int32)), .val (.int (1 : Int32)), .unset, .unset, .unset, .unset, .unset, .unset, .unset, .unset, .unset, .unset]) rfl (q := 54) rfl ?_
        refine g_iload X67 hx (hb hby at_54) (v := (0 : Int32)) rfl (q := 56) rfl ?_
        refine g_if_eq X67 hx (hb hby at_56) (by decide) (q := 64) (by decide) (q2 := 59) rfl (fun hb56 => ?_) (fun hb56 => absurd hb56 (by decide))
        refine g_lload X67 hx (hb hby at_64) (v := (own_stamp b)) rfl (q := 66) rfl ?_
        refine g_lstore X67 hx (hb hby at_66) (L' := #[.val (.long a), .second, .val (.long b), .second, .val (.long incR), .second, .val (.long incX), .second, .val (.long s6), .second, .val (.int fl), .val (.long (own_stamp a)), .second, .val (.long (own_stamp b)), .second, .val (.int (1 : Int32)), .val (.int (0 : Int32)), .val (.int (1 : Int32)), .val (.long (own_stamp b)), .second, .unset, .unset, .unset, .unset, .unset, .unset, .unset, .unset]) rfl (q := 68) rfl ?_
        refine g_iload X67 hx (hb hby at_68) (v := (1 : Int32)) rfl (q := 70) rfl ?_
        refine g_if_eq X67 hx (hb hby at_70) (by decide) (q := 78) (by decide) (q2 := 73) rfl (fun hb70 => absurd hb70 (by decide)) (fun hb70 => ?_)
        refine g_lload X67 hx (hb hby at_73) (v := incR) rfl (q := 75) rfl ?_
        refine g_goto X67 hx (hb hby at_75) (by decide) (q := 80) (by decide) ?_
        refine g_lstore X67 hx (hb hby at_80) (L' := #[.val (.long a), .second, .val (.long b), .second, .val (.long incR), .second, .val (.long incX), .second, .val (.long s6), .second, .val (.int fl), .val (.long (own_stamp a)), .second, .val (.long (own_stamp b)), .second, .val (.int (1 : Int32)), .val (.int (0 : Int32)), .val (.int (1 : Int32)), .val (.long (own_stamp b)), .second, .val (.long incR), .second, .unset, .unset, .unset, .unset, .unset, .unset]) rfl (q := 82) rfl ?_
        refine g_iload X67 hx (hb hby at_82) (v := (1 : Int32)) rfl (q := 84) rfl ?_
        refine g_if_eq X67 hx (hb hby at_84) (by decide) (q := 95) (by decide) (q2 := 87) rfl (fun hb84 => absurd hb84 (by decide)) (fun hb84 => ?_)
        refine g_lload X67 hx (hb hby at_87) (v := s6) rfl (q := 89) rfl ?_
        refine g_callS X67 hx hZ hown (hw _ (List.mem_of_getElem? (i := 0) rfl)) (hw _ (List.mem_of_getElem? (i := 1) rfl)) (hw _ (List.mem_of_getElem? (i := 2) rfl)) (hw _ (List.mem_of_getElem? (i := 3) rfl)) (by decide) e67 (rmS l Z a0 hw s6 h0) (by exact hml.symm) (argsL := [(.long s6)]) (rest := []) rfl rfl pd_3 rfl (Nat.le_of_ble_eq_true rfl) (Nat.le_of_ble_eq_true rfl) (Nat.le_of_ble_eq_true rfl) (Nat.le_of_ble_eq_true rfl) (hb hby at_89) (q := 92) rfl (g_pure rfl rfl fun T190 X190 e190 => ?_)
        show Go p e below _ (T190.setTop (mkF m 92 #[.val (.long a), .second, .val (.long b), .second, .val (.long incR), .second, .val (.long incX), .second, .val (.long s6), .second, .val (.int fl), .val (.long (own_stamp a)), .second, .val (.long (own_stamp b)), .second, .val (.int (1 : Int32)), .val (.int (0 : Int32)), .val (.int (1 : Int32)), .val (.long (own_stamp b)), .second, .val (.long incR), .second, .unset, .unset, .unset, .unset, .unset, .unset] [(.long (own_stamp s6))]))
        refine g_goto X190 hx (hb hby at_92) (by decide) (q := 97) (by decide) ?_
        refine g_lstore X190 hx (hb hby at_97) (L' := #[.val (.long a), .second, .val (.long b), .second, .val (.long incR), .second, .val (.long incX), .second, .val (.long s6), .second, .val (.int fl), .val (.long (own_stamp a)), .second, .val (.long (own_stamp b)), .second, .val (.int (1 : Int32)), .val (.int (0 : Int32)), .val (.int (1 : Int32)), .val (.long (own_stamp b)), .second, .val (.long incR), .second, .val (.long (own_stamp s6)), .second, .unset, .unset, .unset, .unset]) rfl (q := 99) rfl ?_
        refine g_iload X190 hx (hb hby at_99) (v := (1 : Int32)) rfl (q := 101) rfl ?_
        refine g_if_eq X190 hx (hb hby at_101) (by decide) (q := 110) (by decide) (q2 := 104) rfl (fun hb101 => absurd hb101 (by decide)) (fun hb101 => ?_)
        refine g_getS X190 hx hZ hown (hw _ (List.mem_of_getElem? (i := 52) rfl)) Via.refl e190 SP (hb hby at_104) (q := 107) rfl fun T191 X191 e191 => ?_
        refine g_goto X191 hx (hb hby at_107) (by decide) (q := 113) (by decide) ?_
        refine g_astore X191 hx (hb hby at_113) rfl (L' := #[.val (.long a), .second, .val (.long b), .second, .val (.long incR), .second, .val (.long incX), .second, .val (.long s6), .second, .val (.int fl), .val (.long (own_stamp a)), .second, .val (.long (own_stamp b)), .second, .val (.int (1 : Int32)), .val (.int (0 : Int32)), .val (.int (1 : Int32)), .val (.long (own_stamp b)), .second, .val (.long incR), .second, .val (.long (own_stamp s6)), .second, .val (.ref wp), .unset, .unset, .unset]) rfl (q := 115) rfl ?_
        refine g_new X191 hx hZ hown (hw _ (List.mem_of_getElem? (i := 8) rfl)) (hw _ (List.mem_of_getElem? (i := 9) rfl)) (hw _ (List.mem_of_getElem? (i := 10) rfl)) e191 (hb hby at_115) (Nat.le_of_ble_eq_true rfl) (Nat.le_of_ble_eq_true rfl) (q := 118) rfl fun T192 h192 b1 g192 X192 e192 E192 A192 D192 => ?_
        have ge_b1 : n0 ≤ b1 := Nat.le_trans Z0 (Nat.le_of_eq g192.symm)
        have z_192 := Nat.le_trans Z0 E192.1
        have hk_192 := Nat.le_trans hk E192.1
        have f193 := (SQ.ext E192)
        have f194 := (SP.ext E192)
        have F192_type : Fld Z h192 b1 "com/example/bullyring/bullyring/core/mutex/RicartAgrawalaMessage" "type" "Lcom/example/bullyring/bullyring/core/mutex/RicartAgrawalaMessage$Type;" .null := D192 (Or.inr (hw _ (List.mem_of_getElem? (i := 40) rfl))) (ty := (.object "com/example/bullyring/bullyring/core/mutex/RicartAgrawalaMessage$Type")) (by decide)
        have F192_stamp : Fld Z h192 b1 "com/example/bullyring/bullyring/core/mutex/RicartAgrawalaMessage" "stamp" "J" (.long (0 : Int64)) := D192 (Or.inr (hw _ (List.mem_of_getElem? (i := 42) rfl))) (ty := .long) (by decide)
        have F192_requestStamp : Fld Z h192 b1 "com/example/bullyring/bullyring/core/mutex/RicartAgrawalaMessage" "requestStamp" "J" (.long (0 : Int64)) := D192 (Or.inr (hw _ (List.mem_of_getElem? (i := 44) rfl))) (ty := .long) (by decide)
        have F192_incarnation : Fld Z h192 b1 "com/example/bullyring/bullyring/core/mutex/RicartAgrawalaMessage" "incarnation" "J" (.long (0 : Int64)) := D192 (Or.inr (hw _ (List.mem_of_getElem? (i := 46) rfl))) (ty := .long) (by decide)
        refine g_dup X192 hx (hb hby at_118) rfl (q := 119) rfl ?_
        refine g_getS X192 hx hZ hown (hw _ (List.mem_of_getElem? (i := 5) rfl)) Via.refl e192 f193 (hb hby at_119) (q := 122) rfl fun T195 X195 e195 => ?_
        refine g_lload X195 hx (hb hby at_122) (v := (own_stamp a)) rfl (q := 124) rfl ?_
        refine g_lload X195 hx (hb hby at_124) (v := (own_stamp a)) rfl (q := 126) rfl ?_
        refine g_lload X195 hx (hb hby at_126) (v := incR) rfl (q := 128) rfl ?_
        refine g_callIW X195 hx hZ hown rfl (hw _ (List.mem_of_getElem? (i := 11) rfl)) (hw _ (List.mem_of_getElem? (i := 12) rfl)) (hw _ (List.mem_of_getElem? (i := 13) rfl)) (hw _ (List.mem_of_getElem? (i := 10) rfl)) (by decide) e195 hS hk_192 (b := b1) (rmC l Z a0 hw b1 wq wq (own_stamp a) (own_stamp a) incR (own_stamp_ok _) (own_stamp_ok _) (fun _ => rfl) h192 n0 ge_b1 f193 A192 F192_type F192_stamp F192_requestStamp F192_incarnation) (by exact hml.symm) (argsL := [(.ref wq), (.long (own_stamp a)), (.long (own_stamp a)), (.long incR)]) (rest := [(.ref b1)]) rfl rfl pd_4 rfl (Nat.le_of_ble_eq_true rfl) (Nat.le_of_ble_eq_true rfl) (Nat.le_of_ble_eq_true rfl) (Nat.le_of_ble_eq_true rfl) (hb hby at_128) (q := 131) rfl fun v196 T196 L196 h196 e196 X196 hS196 hZ196 hown196 hQ196 => ?_
        obtain ⟨rfl, M196, K196, A196, B196, C196⟩ := hQ196
        have N196 := Fr.app (Fr.nil n0) M196
        have z_196 := Nat.le_trans z_192 K196.1
        have f197 := (own_sta_keep f193 K196 (nsS A192.nostat ns0))
        have f198 := (own_sta_keep f194 K196 (nsS A192.nostat ns0))
        have f199 := (A192.keep K196)
        show Go p e below _ (T196.setTop (mkF m 131 #[.val (.long a), .second, .val (.long b), .second, .val (.long incR), .second, .val (.long incX), .second, .val (.long s6), .second, .val (.int fl), .val (.long (own_stamp a)), .second, .val (.long (own_stamp b)), .second, .val (.int (1 : Int32)), .val (.int (0 : Int32)), .val (.int (1 : Int32)), .val (.long (own_stamp b)), .second, .val (.long incR), .second, .val (.long (own_stamp s6)), .second, .val (.ref wp), .unset, .unset, .unset] [(.ref b1)]))
        refine g_astore X196 hx (hb hby at_131) rfl (L' := #[.val (.long a), .second, .val (.long b), .second, .val (.long incR), .second, .val (.long incX), .second, .val (.long s6), .second, .val (.int fl), .val (.long (own_stamp a)), .second, .val (.long (own_stamp b)), .second, .val (.int (1 : Int32)), .val (.int (0 : Int32)), .val (.int (1 : Int32)), .val (.long (own_stamp b)), .second, .val (.long incR), .second, .val (.long (own_stamp s6)), .second, .val (.ref wp), .val (.ref b1), .unset, .unset]) rfl (q := 133) rfl ?_
        refine g_new X196 hx hZ196 hown196 (hw _ (List.mem_of_getElem? (i := 8) rfl)) (hw _ (List.mem_of_getElem? (i := 9) rfl)) (hw _ (List.mem_of_getElem? (i := 10) rfl)) e196 (hb hby at_133) (Nat.le_of_ble_eq_true rfl) (Nat.le_of_ble_eq_true rfl) (q := 136) rfl fun T200 h200 b2 g200 X200 e200 E200 A200 D200 => ?_
        have ne_b1_b2 : b1 ≠ b2 := Nat.ne_of_lt (Nat.lt_of_lt_of_le A196.lt (Nat.le_of_eq g200.symm))
        have ge_b2 : n0 ≤ b2 := Nat.le_trans z_196 (Nat.le_of_eq g200.symm)
        have z_200 := Nat.le_trans z_196 E200.1
        have hk_200 := Nat.le_trans (Nat.le_refl _) E200.1
        have f201 := (f197.ext E200)
        have f202 := (f198.ext E200)
        have f203 := (A196.ext E200)
        have f204 := (B196.ext E200)
        have f205 := (C196.ext E200)
        have F200_type : Fld Z h200 b2 "com/example/bullyring/bullyring/core/mutex/RicartAgrawalaMessage" "type" "Lcom/example/bullyring/bullyring/core/mutex/RicartAgrawalaMessage$Type;" .null := D200 (Or.inr (hw _ (List.mem_of_getElem? (i := 40) rfl))) (ty := (.object "com/example/bullyring/bullyring/core/mutex/RicartAgrawalaMessage$Type")) (by decide)
        have F200_stamp : Fld Z h200 b2 "com/example/bullyring/bullyring/core/mutex/RicartAgrawalaMessage" "stamp" "J" (.long (0 : Int64)) := D200 (Or.inr (hw _ (List.mem_of_getElem? (i := 42) rfl))) (ty := .long) (by decide)
        have F200_requestStamp : Fld Z h200 b2 "com/example/bullyring/bullyring/core/mutex/RicartAgrawalaMessage" "requestStamp" "J" (.long (0 : Int64)) := D200 (Or.inr (hw _ (List.mem_of_getElem? (i := 44) rfl))) (ty := .long) (by decide)
        have F200_incarnation : Fld Z h200 b2 "com/example/bullyring/bullyring/core/mutex/RicartAgrawalaMessage" "incarnation" "J" (.long (0 : Int64)) := D200 (Or.inr (hw _ (List.mem_of_getElem? (i := 46) rfl))) (ty := .long) (by decide)
        refine g_dup X200 hx (hb hby at_136) rfl (q := 137) rfl ?_
        refine g_aload X200 hx (hb hby at_137) (v := (.ref wp)) rfl rfl (q := 139) rfl ?_
        refine g_lload X200 hx (hb hby at_139) (v := (own_stamp s6)) rfl (q := 141) rfl ?_
        refine g_lload X200 hx (hb hby at_141) (v := (own_stamp b)) rfl (q := 143) rfl ?_
        refine g_lload X200 hx (hb hby at_143) (v := incR) rfl (q := 145) rfl ?_
        refine g_callIW X200 hx hZ196 hown196 rfl (hw _ (List.mem_of_getElem? (i := 11) rfl)) (hw _ (List.mem_of_getElem? (i := 12) rfl)) (hw _ (List.mem_of_getElem? (i := 13) rfl)) (hw _ (List.mem_of_getElem? (i := 10) rfl)) (by decide) e200 hS196 hk_200 (b := b2) (rmC l Z a0 hw b2 wp wq (own_stamp s6) (own_stamp b) incR (own_stamp_ok _) (own_stamp_ok _) (fun q => absurd q.symm nw) h200 n0 ge_b2 f201 A200 F200_type F200_stamp F200_requestStamp F200_incarnation) (by exact hml.symm) (argsL := [(.ref wp), (.long (own_stamp s6)), (.long (own_stamp b)), (.long incR)]) (rest := [(.ref b2)]) rfl rfl pd_4 rfl (Nat.le_of_ble_eq_true rfl) (Nat.le_of_ble_eq_true rfl) (Nat.le_of_ble_eq_true rfl) (Nat.le_of_ble_eq_true rfl) (hb hby at_145) (q := 148) rfl fun v206 T206 L206 h206 e206 X206 hS206 hZ206 hown206 hQ206 => ?_
        obtain ⟨rfl, M206, K206, A206, B206, C206⟩ := hQ206
        have N206 := Fr.app N196 M206
        have z_206 := Nat.le_trans z_200 K206.1
        have f207 := (own_sta_keep f201 K206 (nsS A200.nostat ns0))
        have f208 := (own_sta_keep f202 K206 (nsS A200.nostat ns0))
        have f209 := (f203.keep K206)
        have f210 := (f204.keep K206 (ninS ne_b1_b2 nin0))
        have f211 := (f205.keep K206 (ninS ne_b1_b2 nin0))
        have f212 := (A200.keep K206)
        show Go p e below _ (T206.setTop (mkF m 148 #[.val (.long a), .second, .val (.long b), .second, .val (.long incR), .second, .val (.long incX), .second, .val (.long s6), .second, .val (.int fl), .val (.long (own_stamp a)), .second, .val (.long (own_stamp b)), .second, .val (.int (1 : Int32)), .val (.int (0 : Int32)), .val (.int (1 : Int32)), .val (.long (own_stamp b)), .second, .val (.long incR), .second, .val (.long (own_stamp s6)), .second, .val (.ref wp), .val (.ref b1), .unset, .unset] [(.ref b2)]))
        refine g_astore X206 hx (hb hby at_148) rfl (L' := #[.val (.long a), .second, .val (.long b), .second, .val (.long incR), .second, .val (.long incX), .second, .val (.long s6), .second, .val (.int fl), .val (.long (own_stamp a)), .second, .val (.long (own_stamp b)), .second, .val (.int (1 : Int32)), .val (.int (0 : Int32)), .val (.int (1 : Int32)), .val (.long (own_stamp b)), .second, .val (.long incR), .second, .val (.long (own_stamp s6)), .second, .val (.ref wp), .val (.ref b1), .val (.ref b2), .unset]) rfl (q := 150) rfl ?_
        refine g_iload X206 hx (hb hby at_150) (v := (0 : Int32)) rfl (q := 152) rfl ?_
        refine g_if_ne X206 hx (hb hby at_152) (by decide) (q := 163) (by decide) (q2 := 155) rfl (fun hb152 => absurd hb152 (by decide)) (fun hb152 => ?_)
        refine g_lload X206 hx (hb hby at_155) (v := (own_stamp b)) rfl (q := 157) rfl ?_
        refine g_lload X206 hx (hb hby at_157) (v := (own_stamp a)) rfl (q := 159) rfl ?_
        refine g_lcmp X206 hx (hb hby at_159) (z := (lcmpW (own_stamp b) (own_stamp a))) rfl (q := 160) rfl ?_
        refine g_if_ne X206 hx (hb hby at_160) (by decide) (q := 180) (by decide) (q2 := 163) rfl (fun hb160 => ?_) (fun hb160 => ?_)
        · refine g_iconst X206 hx (hb hby at_180) (n := (0 : Int32)) (by decide) (q := 181) rfl ?_
          refine g_istore X206 hx (hb hby at_181) (L' := #[.val (.long a), .second, .val (.long b), .second, .val (.long incR), .second, .val (.long incX), .second, .val (.long s6), .second, .val (.int fl), .val (.long (own_stamp a)), .second, .val (.long (own_stamp b)), .second, .val (.int (1 : Int32)), .val (.int (0 : Int32)), .val (.int (1 : Int32)), .val (.long (own_stamp b)), .second, .val (.long incR), .second, .val (.long (own_stamp s6)), .second, .val (.ref wp), .val (.ref b1), .val (.ref b2), .val (.int (0 : Int32))]) rfl (q := 183) rfl ?_
          refine g_aload X206 hx (hb hby at_183) (v := (.ref b2)) rfl rfl (q := 185) rfl ?_
          refine g_aload X206 hx (hb hby at_185) (v := (.ref b1)) rfl rfl (q := 187) rfl ?_
          refine g_callV X206 hx hZ206 hown206 (hw _ (List.mem_of_getElem? (i := 47) rfl)) (hw _ (List.mem_of_getElem? (i := 48) rfl)) (hw _ (List.mem_of_getElem? (i := 50) rfl)) (hw _ (List.mem_of_getElem? (i := 49) rfl)) (hw _ (List.mem_of_getElem? (i := 51) rfl)) (hw _ (List.mem_of_getElem? (i := 10) rfl)) (notFace_of_selects (args := #[]) (mvT hZ206 (hw _ (List.mem_of_getElem? (i := 50) rfl)))) (by decide) e206 A206 (rmNm l Z a0 hw b2 b1 (own_stamp b) incR (own_stamp a) incR h206 B206 C206 f210 f211 (0 : Int32) (by simp [(show ¬ own_stamp b = own_stamp a from fun q => hb160 ((lw_eq _ _).mpr q))])) (by exact hml.symm) (argsL := [(.ref b1)]) (rest := []) rfl rfl pd_5 rfl (Nat.le_of_ble_eq_true rfl) (Nat.le_of_ble_eq_true rfl) (Nat.le_of_ble_eq_true rfl) (Nat.le_of_ble_eq_true rfl) (hb hby at_187) (q := 190) rfl (g_pure rfl rfl fun T213 X213 e213 => ?_)
          show Go p e below _ (T213.setTop (mkF m 190 #[.val (.long a), .second, .val (.long b), .second, .val (.long incR), .second, .val (.long incX), .second, .val (.long s6), .second, .val (.int fl), .val (.long (own_stamp a)), .second, .val (.long (own_stamp b)), .second, .val (.int (1 : Int32)), .val (.int (0 : Int32)), .val (.int (1 : Int32)), .val (.long (own_stamp b)), .second, .val (.long incR), .second, .val (.long (own_stamp s6)), .second, .val (.ref wp), .val (.ref b1), .val (.ref b2), .val (.int (0 : Int32))] [(.int (0 : Int32))]))
          refine g_iload X213 hx (hb hby at_190) (v := (0 : Int32)) rfl (q := 192) rfl ?_
          refine g_icmp_ne X213 hx (hb hby at_192) (by decide) (q := 199) (by decide) (q2 := 195) rfl (fun hb192 => absurd hb192 (by decide)) (fun hb192 => ?_)
          refine g_iconst X213 hx (hb hby at_195) (n := (1 : Int32)) (by decide) (q := 196) rfl ?_
          refine g_goto X213 hx (hb hby at_196) (by decide) (q := 200) (by decide) ?_
          exact g_retBW X213 hS206 (by rw [e213]; exact (Nat.le_refl _)) hx hret hlk (hb hby at_200) (by decide) ⟨rfl, by simpa using N206⟩ (Nat.le_of_ble_eq_true rfl) (Nat.le_of_ble_eq_true rfl)
        · refine g_iload X206 hx (hb hby at_163) (v := (1 : Int32)) rfl (q := 165) rfl ?_
          refine g_if_ne X206 hx (hb hby at_165) (by decide) (q := 176) (by decide) (q2 := 168) rfl (fun hb165 => ?_) (fun hb165 => absurd hb165 (by decide))
          refine g_iconst X206 hx (hb hby at_176) (n := (1 : Int32)) (by decide) (q := 177) rfl ?_
          refine g_goto X206 hx (hb hby at_177) (by decide) (q := 181) (by decide) ?_
          refine g_istore X206 hx (hb hby at_181) (L' := #[.val (.long a), .second, .val (.long b), .second, .val (.long incR), .second, .val (.long incX), .second, .val (.long s6), .second, .val (.int fl), .val (.long (own_stamp a)), .second, .val (.long (own_stamp b)), .second, .val (.int (1 : Int32)), .val (.int (0 : Int32)), .val (.int (1 : Int32)), .val (.long (own_stamp b)), .second, .val (.long incR), .second, .val (.long (own_stamp s6)), .second, .val (.ref wp), .val (.ref b1), .val (.ref b2), .val (.int (1 : Int32))]) rfl (q := 183) rfl ?_
          refine g_aload X206 hx (hb hby at_183) (v := (.ref b2)) rfl rfl (q := 185) rfl ?_
          refine g_aload X206 hx (hb hby at_185) (v := (.ref b1)) rfl rfl (q := 187) rfl ?_
          refine g_callV X206 hx hZ206 hown206 (hw _ (List.mem_of_getElem? (i := 47) rfl)) (hw _ (List.mem_of_getElem? (i := 48) rfl)) (hw _ (List.mem_of_getElem? (i := 50) rfl)) (hw _ (List.mem_of_getElem? (i := 49) rfl)) (hw _ (List.mem_of_getElem? (i := 51) rfl)) (hw _ (List.mem_of_getElem? (i := 10) rfl)) (notFace_of_selects (args := #[]) (mvT hZ206 (hw _ (List.mem_of_getElem? (i := 50) rfl)))) (by decide) e206 A206 (rmNm l Z a0 hw b2 b1 (own_stamp b) incR (own_stamp a) incR h206 B206 C206 f210 f211 (1 : Int32) (by simp [(show own_stamp b = own_stamp a from (lw_eq _ _).mp hb160)])) (by exact hml.symm) (argsL := [(.ref b1)]) (rest := []) rfl rfl pd_5 rfl (Nat.le_of_ble_eq_true rfl) (Nat.le_of_ble_eq_true rfl) (Nat.le_of_ble_eq_true rfl) (Nat.le_of_ble_eq_true rfl) (hb hby at_187) (q := 190) rfl (g_pure rfl rfl fun T214 X214 e214 => ?_)
          show Go p e below _ (T214.setTop (mkF m 190 #[.val (.long a), .second, .val (.long b), .second, .val (.long incR), .second, .val (.long incX), .second, .val (.long s6), .second, .val (.int fl), .val (.long (own_stamp a)), .second, .val (.long (own_stamp b)), .second, .val (.int (1 : Int32)), .val (.int (0 : Int32)), .val (.int (1 : Int32)), .val (.long (own_stamp b)), .second, .val (.long incR), .second, .val (.long (own_stamp s6)), .second, .val (.ref wp), .val (.ref b1), .val (.ref b2), .val (.int (1 : Int32))] [(.int (1 : Int32))]))
          refine g_iload X214 hx (hb hby at_190) (v := (1 : Int32)) rfl (q := 192) rfl ?_
          refine g_icmp_ne X214 hx (hb hby at_192) (by decide) (q := 199) (by decide) (q2 := 195) rfl (fun hb192 => absurd hb192 (by decide)) (fun hb192 => ?_)
          refine g_iconst X214 hx (hb hby at_195) (n := (1 : Int32)) (by decide) (q := 196) rfl ?_
          refine g_goto X214 hx (hb hby at_196) (by decide) (q := 200) (by decide) ?_
          exact g_retBW X214 hS206 (by rw [e214]; exact (Nat.le_refl _)) hx hret hlk (hb hby at_200) (by decide) ⟨rfl, by simpa using N206⟩ (Nat.le_of_ble_eq_true rfl) (Nat.le_of_ble_eq_true rfl)
    · refine g_iconst X67 hx (hb hby at_33) (n := (1 : Int32)) (by decide) (q := 34) rfl ?_
      refine g_goto X67 hx (hb hby at_34) (by decide) (q := 38) (by decide) ?_
      refine g_istore X67 hx (hb hby at_38) (L' := #[.val (.long a), .second, .val (.long b), .second, .val (.long incR), .second, .val (.long incX), .second, .val (.long s6), .second, .val (.int fl), .val (.long (own_stamp a)), .second, .val (.long (own_stamp b)), .second, .val (.int (1 : Int32)), .val (.int (1 : Int32)), .unset, .unset, .unset, .unset, .unset, .unset, .unset, .unset, .unset, .unset, .unset]) rfl (q := 40) rfl ?_
      refine g_iload X67 hx (hb hby at_40) (v := fl) rfl (q := 42) rfl ?_
      refine g_iconst X67 hx (hb hby at_42) (n := (4 : Int32)) (by decide) (q := 43) rfl ?_
      refine g_iand X67 hx (hb hby at_43) (z := (fl &&& (4 : Int32))) rfl (q := 44) rfl ?_
      refine g_if_eq X67 hx (hb hby at_44) (by decide) (q := 51) (by decide) (q2 := 47) rfl (fun hb44 => ?_) (fun hb44 => ?_)
      · refine g_iconst X67 hx (hb hby at_51) (n := (0 : Int32)) (by decide) (q := 52) rfl ?_
        refine g_istore X67 hx (hb hby at_52) (L' := #[.val (.long a), .second, .val (.long b), .second, .val (.long incR), .second, .val (.long incX), .second, .val (.long s6), .second, .val (.int fl), .val (.long (own_stamp a)), .second, .val (.long (own_stamp b)), .second, .val (.int (1 : Int32)), .val (.int (1 : Int32)), .val (.int (0 : Int32)), .unset, .unset, .unset, .unset, .unset, .unset, .unset, .unset, .unset, .unset]) rfl (q := 54) rfl ?_
        refine g_iload X67 hx (hb hby at_54) (v := (1 : Int32)) rfl (q := 56) rfl ?_
        refine g_if_eq X67 hx (hb hby at_56) (by decide) (q := 64) (by decide) (q2 := 59) rfl (fun hb56 => absurd hb56 (by decide)) (fun hb56 => ?_)
        refine g_lload X67 hx (hb hby at_59) (v := (own_stamp a)) rfl (q := 61) rfl ?_
        refine g_goto X67 hx (hb hby at_61) (by decide) (q := 66) (by decide) ?_
        refine g_lstore X67 hx (hb hby at_66) (L' := #[.val (.long a), .second, .val (.long b), .second, .val (.long incR), .second, .val (.long incX), .second, .val (.long s6), .second, .val (.int fl), .val (.long (own_stamp a)), .second, .val (.long (own_stamp b)), .second, .val (.int (1 : Int32)), .val (.int (1 : Int32)), .val (.int (0 : Int32)), .val (.long (own_stamp a)), .second, .unset, .unset, .unset, .unset, .unset, .unset, .unset, .unset]) rfl (q := 68) rfl ?_
        refine g_iload X67 hx (hb hby at_68) (v := (0 : Int32)) rfl (q := 70) rfl ?_
        refine g_if_eq X67 hx (hb hby at_70) (by decide) (q := 78) (by decide) (q2 := 73) rfl (fun hb70 => ?_) (fun hb70 => absurd hb70 (by decide))
        refine g_lload X67 hx (hb hby at_78) (v := incX) rfl (q := 80) rfl ?_
        refine g_lstore X67 hx (hb hby at_80) (L' := #[.val (.long a), .second, .val (.long b), .second, .val (.long incR), .second, .val (.long incX), .second, .val (.long s6), .second, .val (.int fl), .val (.long (own_stamp a)), .second, .val (.long (own_stamp b)), .second, .val (.int (1 : Int32)), .val (.int (1 : Int32)), .val (.int (0 : Int32)), .val (.long (own_stamp a)), .second, .val (.long incX), .second, .unset, .unset, .unset, .unset, .unset, .unset]) rfl (q := 82) rfl ?_
        refine g_iload X67 hx (hb hby at_82) (v := (1 : Int32)) rfl (q := 84) rfl ?_
        refine g_if_eq X67 hx (hb hby at_84) (by decide) (q := 95) (by decide) (q2 := 87) rfl (fun hb84 => absurd hb84 (by decide)) (fun hb84 => ?_)
        refine g_lload X67 hx (hb hby at_87) (v := s6) rfl (q := 89) rfl ?_
        refine g_callS X67 hx hZ hown (hw _ (List.mem_of_getElem? (i := 0) rfl)) (hw _ (List.mem_of_getElem? (i := 1) rfl)) (hw _ (List.mem_of_getElem? (i := 2) rfl)) (hw _ (List.mem_of_getElem? (i := 3) rfl)) (by decide) e67 (rmS l Z a0 hw s6 h0) (by exact hml.symm) (argsL := [(.long s6)]) (rest := []) rfl rfl pd_3 rfl (Nat.le_of_ble_eq_true rfl) (Nat.le_of_ble_eq_true rfl) (Nat.le_of_ble_eq_true rfl) (Nat.le_of_ble_eq_true rfl) (hb hby at_89) (q := 92) rfl (g_pure rfl rfl fun T215 X215 e215 => ?_)
        show Go p e below _ (T215.setTop (mkF m 92 #[.val (.long a), .second, .val (.long b), .second, .val (.long incR), .second, .val (.long incX), .second, .val (.long s6), .second, .val (.int fl), .val (.long (own_stamp a)), .second, .val (.long (own_stamp b)), .second, .val (.int (1 : Int32)), .val (.int (1 : Int32)), .val (.int (0 : Int32)), .val (.long (own_stamp a)), .second, .val (.long incX), .second, .unset, .unset, .unset, .unset, .unset, .unset] [(.long (own_stamp s6))]))
        refine g_goto X215 hx (hb hby at_92) (by decide) (q := 97) (by decide) ?_
        refine g_lstore X215 hx (hb hby at_97) (L' := #[.val (.long a), .second, .val (.long b), .second, .val (.long incR), .second, .val (.long incX), .second, .val (.long s6), .second, .val (.int fl), .val (.long (own_stamp a)), .second, .val (.long (own_stamp b)), .second, .val (.int (1 : Int32)), .val (.int (1 : Int32)), .val (.int (0 : Int32)), .val (.long (own_stamp a)), .second, .val (.long incX), .second, .val (.long (own_stamp s6)), .second, .unset, .unset, .unset, .unset]) rfl (q := 99) rfl ?_
        refine g_iload X215 hx (hb hby at_99) (v := (1 : Int32)) rfl (q := 101) rfl ?_
        refine g_if_eq X215 hx (hb hby at_101) (by decide) (q := 110) (by decide) (q2 := 104) rfl (fun hb101 => absurd hb101 (by decide)) (fun hb101 => ?_)
        refine g_getS X215 hx hZ hown (hw _ (List.mem_of_getElem? (i := 52) rfl)) Via.refl e215 SP (hb hby at_104) (q := 107) rfl fun T216 X216 e216 => ?_
        refine g_goto X216 hx (hb hby at_107) (by decide) (q := 113) (by decide) ?_
        refine g_astore X216 hx (hb hby at_113) rfl (L' := #[.val (.long a), .second, .val (.long b), .second, .val (.long incR), .second, .val (.long incX), .second, .val (.long s6), .second, .val (.int fl), .val (.long (own_stamp a)), .second, .val (.long (own_stamp b)), .second, .val (.int (1 : Int32)), .val (.int (1 : Int32)), .val (.int (0 : Int32)), .val (.long (own_stamp a)), .second, .val (.long incX), .second, .val (.long (own_stamp s6)), .second, .val (.ref wp), .unset, .unset, .unset]) rfl (q := 115) rfl ?_
        refine g_new X216 hx hZ hown (hw _ (List.mem_of_getElem? (i := 8) rfl)) (hw _ (List.mem_of_getElem? (i := 9) rfl)) (hw _ (List.mem_of_getElem? (i := 10) rfl)) e216 (hb hby at_115) (Nat.le_of_ble_eq_true rfl) (Nat.le_of_ble_eq_true rfl) (q := 118) rfl fun T217 h217 b1 g217 X217 e217 E217 A217 D217 => ?_
        have ge_b1 : n0 ≤ b1 := Nat.le_trans Z0 (Nat.le_of_eq g217.symm)
        have z_217 := Nat.le_trans Z0 E217.1
        have hk_217 := Nat.le_trans hk E217.1
        have f218 := (SQ.ext E217)
        have f219 := (SP.ext E217)
        have F217_type : Fld Z h217 b1 "com/example/bullyring/bullyring/core/mutex/RicartAgrawalaMessage" "type" "Lcom/example/bullyring/bullyring/core/mutex/RicartAgrawalaMessage$Type;" .null := D217 (Or.inr (hw _ (List.mem_of_getElem? (i := 40) rfl))) (ty := (.object "com/example/bullyring/bullyring/core/mutex/RicartAgrawalaMessage$Type")) (by decide)
        have F217_stamp : Fld Z h217 b1 "com/example/bullyring/bullyring/core/mutex/RicartAgrawalaMessage" "stamp" "J" (.long (0 : Int64)) := D217 (Or.inr (hw _ (List.mem_of_getElem? (i := 42) rfl))) (ty := .long) (by decide)
        have F217_requestStamp : Fld Z h217 b1 "com/example/bullyring/bullyring/core/mutex/RicartAgrawalaMessage" "requestStamp" "J" (.long (0 : Int64)) := D217 (Or.inr (hw _ (List.mem_of_getElem? (i := 44) rfl))) (ty := .long) (by decide)
        have F217_incarnation : Fld Z h217 b1 "com/example/bullyring/bullyring/core/mutex/RicartAgrawalaMessage" "incarnation" "J" (.long (0 : Int64)) := D217 (Or.inr (hw _ (List.mem_of_getElem? (i := 46) rfl))) (ty := .long) (by decide)
        refine g_dup X217 hx (hb hby at_118) rfl (q := 119) rfl ?_
        refine g_getS X217 hx hZ hown (hw _ (List.mem_of_getElem? (i := 5) rfl)) Via.refl e217 f218 (hb hby at_119) (q := 122) rfl fun T220 X220 e220 => ?_
        refine g_lload X220 hx (hb hby at_122) (v := (own_stamp a)) rfl (q := 124) rfl ?_
        refine g_lload X220 hx (hb hby at_124) (v := (own_stamp a)) rfl (q := 126) rfl ?_
        refine g_lload X220 hx (hb hby at_126) (v := incR) rfl (q := 128) rfl ?_
        refine g_callIW X220 hx hZ hown rfl (hw _ (List.mem_of_getElem? (i := 11) rfl)) (hw _ (List.mem_of_getElem? (i := 12) rfl)) (hw _ (List.mem_of_getElem? (i := 13) rfl)) (hw _ (List.mem_of_getElem? (i := 10) rfl)) (by decide) e220 hS hk_217 (b := b1) (rmC l Z a0 hw b1 wq wq (own_stamp a) (own_stamp a) incR (own_stamp_ok _) (own_stamp_ok _) (fun _ => rfl) h217 n0 ge_b1 f218 A217 F217_type F217_stamp F217_requestStamp F217_incarnation) (by exact hml.symm) (argsL := [(.ref wq), (.long (own_stamp a)), (.long (own_stamp a)), (.long incR)]) (rest := [(.ref b1)]) rfl rfl pd_4 rfl (Nat.le_of_ble_eq_true rfl) (Nat.le_of_ble_eq_true rfl) (Nat.le_of_ble_eq_true rfl) (Nat.le_of_ble_eq_true rfl) (hb hby at_128) (q := 131) rfl fun v221 T221 L221 h221 e221 X221 hS221 hZ221 hown221 hQ221 => ?_
        obtain ⟨rfl, M221, K221, A221, B221, C221⟩ := hQ221
        have N221 := Fr.app (Fr.nil n0) M221
        have z_221 := Nat.le_trans z_217 K221.1
        have f222 := (own_sta_keep f218 K221 (nsS A217.nostat ns0))
        have f223 := (own_sta_keep f219 K221 (nsS A217.nostat ns0))
        have f224 := (A217.keep K221)
        show Go p e below _ (T221.setTop (mkF m 131 #[.val (.long a), .second, .val (.long b), .second, .val (.long incR), .second, .val (.long incX), .second, .val (.long s6), .second, .val (.int fl), .val (.long (own_stamp a)), .second, .val (.long (own_stamp b)), .second, .val (.int (1 : Int32)), .val (.int (1 : Int32)), .val (.int (0 : Int32)), .val (.long (own_stamp a)), .second, .val (.long incX), .second, .val (.long (own_stamp s6)), .second, .val (.ref wp), .unset, .unset, .unset] [(.ref b1)]))
        refine g_astore X221 hx (hb hby at_131) rfl (L' := #[.val (.long a), .second, .val (.long b), .second, .val (.long incR), .second, .val (.long incX), .second, .val (.long s6), .second, .val (.int fl), .val (.long (own_stamp a)), .second, .val (.long (own_stamp b)), .second, .val (.int (1 : Int32)), .val (.int (1 : Int32)), .val (.int (0 : Int32)), .val (.long (own_stamp a)), .second, .val (.long incX), .second, .val (.long (own_stamp s6)), .second, .val (.ref wp), .val (.ref b1), .unset, .unset]) rfl (q := 133) rfl ?_
        refine g_new X221 hx hZ221 hown221 (hw _ (List.mem_of_getElem? (i := 8) rfl)) (hw _ (List.mem_of_getElem? (i := 9) rfl)) (hw _ (List.mem_of_getElem? (i := 10) rfl)) e221 (hb hby at_133) (Nat.le_of_ble_eq_true rfl) (Nat.le_of_ble_eq_true rfl) (q := 136) rfl fun T225 h225 b2 g225 X225 e225 E225 A225 D225 => ?_
        have ne_b1_b2 : b1 ≠ b2 := Nat.ne_of_lt (Nat.lt_of_lt_of_le A221.lt (Nat.le_of_eq g225.symm))
        have ge_b2 : n0 ≤ b2 := Nat.le_trans z_221 (Nat.le_of_eq g225.symm)
        have z_225 := Nat.le_trans z_221 E225.1
        have hk_225 := Nat.le_trans (Nat.le_refl _) E225.1
        have f226 := (f222.ext E225)
        have f227 := (f223.ext E225)
        have f228 := (A221.ext E225)
        have f229 := (B221.ext E225)
        have f230 := (C221.ext E225)
        have F225_type : Fld Z h225 b2 "com/example/bullyring/bullyring/core/mutex/RicartAgrawalaMessage" "type" "Lcom/example/bullyring/bullyring/core/mutex/RicartAgrawalaMessage$Type;" .null := D225 (Or.inr (hw _ (List.mem_of_getElem? (i := 40) rfl))) (ty := (.object "com/example/bullyring/bullyring/core/mutex/RicartAgrawalaMessage$Type")) (by decide)
        have F225_stamp : Fld Z h225 b2 "com/example/bullyring/bullyring/core/mutex/RicartAgrawalaMessage" "stamp" "J" (.long (0 : Int64)) := D225 (Or.inr (hw _ (List.mem_of_getElem? (i := 42) rfl))) (ty := .long) (by decide)
        have F225_requestStamp : Fld Z h225 b2 "com/example/bullyring/bullyring/core/mutex/RicartAgrawalaMessage" "requestStamp" "J" (.long (0 : Int64)) := D225 (Or.inr (hw _ (List.mem_of_getElem? (i := 44) rfl))) (ty := .long) (by decide)
        have F225_incarnation : Fld Z h225 b2 "com/example/bullyring/bullyring/core/mutex/RicartAgrawalaMessage" "incarnation" "J" (.long (0 : Int64)) := D225 (Or.inr (hw _ (List.mem_of_getElem? (i := 46) rfl))) (ty := .long) (by decide)
        refine g_dup X225 hx (hb hby at_136) rfl (q := 137) rfl ?_
        refine g_aload X225 hx (hb hby at_137) (v := (.ref wp)) rfl rfl (q := 139) rfl ?_
        refine g_lload X225 hx (hb hby at_139) (v := (own_stamp s6)) rfl (q := 141) rfl ?_
        refine g_lload X225 hx (hb hby at_141) (v := (own_stamp a)) rfl (q := 143) rfl ?_
        refine g_lload X225 hx (hb hby at_143) (v := incX) rfl (q := 145) rfl ?_
        refine g_callIW X225 hx hZ221 hown221 rfl (hw _ (List.mem_of_getElem? (i := 11) rfl)) (hw _ (List.mem_of_getElem? (i := 12) rfl)) (hw _ (List.mem_of_getElem? (i := 13) rfl)) (hw _ (List.mem_of_getElem? (i := 10) rfl)) (by decide) e225 hS221 hk_225 (b := b2) (rmC l Z a0 hw b2 wp wq (own_stamp s6) (own_stamp a) incX (own_stamp_ok _) (own_stamp_ok _) (fun q => absurd q.symm nw) h225 n0 ge_b2 f226 A225 F225_type F225_stamp F225_requestStamp F225_incarnation) (by exact hml.symm) (argsL := [(.ref wp), (.long (own_stamp s6)), (.long (own_stamp a)), (.long incX)]) (rest := [(.ref b2)]) rfl rfl pd_4 rfl (Nat.le_of_ble_eq_true rfl) (Nat.le_of_ble_eq_true rfl) (Nat.le_of_ble_eq_true rfl) (Nat.le_of_ble_eq_true rfl) (hb hby at_145) (q := 148) rfl fun v231 T231 L231 h231 e231 X231 hS231 hZ231 hown231 hQ231 => ?_
        obtain ⟨rfl, M231, K231, A231, B231, C231⟩ := hQ231
        have N231 := Fr.app N221 M231
        have z_231 := Nat.le_trans z_225 K231.1
        have f232 := (own_sta_keep f226 K231 (nsS A225.nostat ns0))
        have f233 := (own_sta_keep f227 K231 (nsS A225.nostat ns0))
        have f234 := (f228.keep K231)
        have f235 := (f229.keep K231 (ninS ne_b1_b2 nin0))
        have f236 := (f230.keep K231 (ninS ne_b1_b2 nin0))
        have f237 := (A225.keep K231)
        show Go p e below _ (T231.setTop (mkF m 148 #[.val (.long a), .second, .val (.long b), .second, .val (.long incR), .second, .val (.long incX), .second, .val (.long s6), .second, .val (.int fl), .val (.long (own_stamp a)), .second, .val (.long (own_stamp b)), .second, .val (.int (1 : Int32)), .val (.int (1 : Int32)), .val (.int (0 : Int32)), .val (.long (own_stamp a)), .second, .val (.long incX), .second, .val (.long (own_stamp s6)), .second, .val (.ref wp), .val (.ref b1), .unset, .unset] [(.ref b2)]))
        refine g_astore X231 hx (hb hby at_148) rfl (L' := #[.val (.long a), .second, .val (.long b), .second, .val (.long incR), .second, .val (.long incX), .second, .val (.long s6), .second, .val (.int fl), .val (.long (own_stamp a)), .second, .val (.long (own_stamp b)), .second, .val (.int (1 : Int32)), .val (.int (1 : Int32)), .val (.int (0 : Int32)), .val (.long (own_stamp a)), .second, .val (.long incX), .second, .val (.long (own_stamp s6)), .second, .val (.ref wp), .val (.ref b1), .val (.ref b2), .unset]) rfl (q := 150) rfl ?_
        refine g_iload X231 hx (hb hby at_150) (v := (1 : Int32)) rfl (q := 152) rfl ?_
        refine g_if_ne X231 hx (hb hby at_152) (by decide) (q := 163) (by decide) (q2 := 155) rfl (fun hb152 => ?_) (fun hb152 => absurd hb152 (by decide))
        refine g_iload X231 hx (hb hby at_163) (v := (0 : Int32)) rfl (q := 165) rfl ?_
        refine g_if_ne X231 hx (hb hby at_165) (by decide) (q := 176) (by decide) (q2 := 168) rfl (fun hb165 => absurd hb165 (by decide)) (fun hb165 => ?_)
        refine g_lload X231 hx (hb hby at_168) (v := incX) rfl (q := 170) rfl ?_
        refine g_lload X231 hx (hb hby at_170) (v := incR) rfl (q := 172) rfl ?_
        refine g_lcmp X231 hx (hb hby at_172) (z := (lcmpW incX incR)) rfl (q := 173) rfl ?_
        refine g_if_ne X231 hx (hb hby at_173) (by decide) (q := 180) (by decide) (q2 := 176) rfl (fun hb173 => ?_) (fun hb173 => ?_)
        · refine g_iconst X231 hx (hb hby at_180) (n := (0 : Int32)) (by decide) (q := 181) rfl ?_
          refine g_istore X231 hx (hb hby at_181) (L' := #[.val (.long a), .second, .val (.long b), .second, .val (.long incR), .second, .val (.long incX), .second, .val (.long s6), .second, .val (.int fl), .val (.long (own_stamp a)), .second, .val (.long (own_stamp b)), .second, .val (.int (1 : Int32)), .val (.int (1 : Int32)), .val (.int (0 : Int32)), .val (.long (own_stamp a)), .second, .val (.long incX), .second, .val (.long (own_stamp s6)), .second, .val (.ref wp), .val (.ref b1), .val (.ref b2), .val (.int (0 : Int32))]) rfl (q := 183) rfl ?_
          refine g_aload X231 hx (hb hby at_183) (v := (.ref b2)) rfl rfl (q := 185) rfl ?_
          refine g_aload X231 hx (hb hby at_185) (v := (.ref b1)) rfl rfl (q := 187) rfl ?_
          refine g_callV X231 hx hZ231 hown231 (hw _ (List.mem_of_getElem? (i := 47) rfl)) (hw _ (List.mem_of_getElem? (i := 48) rfl)) (hw _ (List.mem_of_getElem? (i := 50) rfl)) (hw _ (List.mem_of_getElem? (i := 49) rfl)) (hw _ (List.mem_of_getElem? (i := 51) rfl)) (hw _ (List.mem_of_getElem? (i := 10) rfl)) (notFace_of_selects (args := #[]) (mvT hZ231 (hw _ (List.mem_of_getElem? (i := 50) rfl)))) (by decide) e231 A231 (rmNm l Z a0 hw b2 b1 (own_stamp a) incX (own_stamp a) incR h231 B231 C231 f235 f236 (0 : Int32) (by simp [(show ¬ incX = incR from fun q => hb173 ((lw_eq _ _).mpr q))])) (by exact hml.symm) (argsL := [(.ref b1)]) (rest := []) rfl rfl pd_5 rfl (Nat.le_of_ble_eq_true rfl) (Nat.le_of_ble_eq_true rfl) (Nat.le_of_ble_eq_true rfl) (Nat.le_of_ble_eq_true rfl) (hb hby at_187) (q := 190) rfl (g_pure rfl rfl fun T238 X238 e238 => ?_)
          show Go p e below _ (T238.setTop (mkF m 190 #[.val (.long a), .second, .val (.long b), .second, .val (.long incR), .second, .val (.long incX), .second, .val (.long s6), .second, .val (.int fl), .val (.long (own_stamp a)), .second, .val (.long (own_stamp b)), .second, .val (.int (1 : Int32)), .val (.int (1 : Int32)), .val (.int (0 : Int32)), .val (.long (own_stamp a)), .second, .val (.long incX), .second, .val (.long (own_stamp s6)), .second, .val (.ref wp), .val (.ref b1), .val (.ref b2), .val (.int (0 : Int32))] [(.int (0 : Int32))]))
          refine g_iload X238 hx (hb hby at_190) (v := (0 : Int32)) rfl (q := 192) rfl ?_
          refine g_icmp_ne X238 hx (hb hby at_192) (by decide) (q := 199) (by decide) (q2 := 195) rfl (fun hb192 => absurd hb192 (by decide)) (fun hb192 => ?_)
          refine g_iconst X238 hx (hb hby at_195) (n := (1 : Int32)) (by decide) (q := 196) rfl ?_
          refine g_goto X238 hx (hb hby at_196) (by decide) (q := 200) (by decide) ?_
          exact g_retBW X238 hS231 (by rw [e238]; exact (Nat.le_refl _)) hx hret hlk (hb hby at_200) (by decide) ⟨rfl, by simpa using N231⟩ (Nat.le_of_ble_eq_true rfl) (Nat.le_of_ble_eq_true rfl)
        · refine g_iconst X231 hx (hb hby at_176) (n := (1 : Int32)) (by decide) (q := 177) rfl ?_
          refine g_goto X231 hx (hb hby at_177) (by decide) (q := 181) (by decide) ?_
          refine g_istore X231 hx (hb hby at_181) (L' := #[.val (.long a), .second, .val (.long b), .second, .val (.long incR), .second, .val (.long incX), .second, .val (.long s6), .second, .val (.int fl), .val (.long (own_stamp a)), .second, .val (.long (own_stamp b)), .second, .val (.int (1 : Int32)), .val (.int (1 : Int32)), .val (.int (0 : Int32)), .val (.long (own_stamp a)), .second, .val (.long incX), .second, .val (.long (own_stamp s6)), .second, .val (.ref wp), .val (.ref b1), .val (.ref b2), .val (.int (1 : Int32))]) rfl (q := 183) rfl ?_
          refine g_aload X231 hx (hb hby at_183) (v := (.ref b2)) rfl rfl (q := 185) rfl ?_
          refine g_aload X231 hx (hb hby at_185) (v := (.ref b1)) rfl rfl (q := 187) rfl ?_
          refine g_callV X231 hx hZ231 hown231 (hw _ (List.mem_of_getElem? (i := 47) rfl)) (hw _ (List.mem_of_getElem? (i := 48) rfl)) (hw _ (List.mem_of_getElem? (i := 50) rfl)) (hw _ (List.mem_of_getElem? (i := 49) rfl)) (hw _ (List.mem_of_getElem? (i := 51) rfl)) (hw _ (List.mem_of_getElem? (i := 10) rfl)) (notFace_of_selects (args := #[]) (mvT hZ231 (hw _ (List.mem_of_getElem? (i := 50) rfl)))) (by decide) e231 A231 (rmNm l Z a0 hw b2 b1 (own_stamp a) incX (own_stamp a) incR h231 B231 C231 f235 f236 (1 : Int32) (by simp [(show incX = incR from (lw_eq _ _).mp hb173)])) (by exact hml.symm) (argsL := [(.ref b1)]) (rest := []) rfl rfl pd_5 rfl (Nat.le_of_ble_eq_true rfl) (Nat.le_of_ble_eq_true rfl) (Nat.le_of_ble_eq_true rfl) (Nat.le_of_ble_eq_true rfl) (hb hby at_187) (q := 190) rfl (g_pure rfl rfl fun T239 X239 e239 => ?_)
          show Go p e below _ (T239.setTop (mkF m 190 #[.val (.long a), .second, .val (.long b), .second, .val (.long incR), .second, .val (.long incX), .second, .val (.long s6), .second, .val (.int fl), .val (.long (own_stamp a)), .second, .val (.long (own_stamp b)), .second, .val (.int (1 : Int32)), .val (.int (1 : Int32)), .val (.int (0 : Int32)), .val (.long (own_stamp a)), .second, .val (.long incX), .second, .val (.long (own_stamp s6)), .second, .val (.ref wp), .val (.ref b1), .val (.ref b2), .val (.int (1 : Int32))] [(.int (1 : Int32))]))
          refine g_iload X239 hx (hb hby at_190) (v := (1 : Int32)) rfl (q := 192) rfl ?_
          refine g_icmp_ne X239 hx (hb hby at_192) (by decide) (q := 199) (by decide) (q2 := 195) rfl (fun hb192 => absurd hb192 (by decide)) (fun hb192 => ?_)
          refine g_iconst X239 hx (hb hby at_195) (n := (1 : Int32)) (by decide) (q := 196) rfl ?_
          refine g_goto X239 hx (hb hby at_196) (by decide) (q := 200) (by decide) ?_
          exact g_retBW X239 hS231 (by rw [e239]; exact (Nat.le_refl _)) hx hret hlk (hb hby at_200) (by decide) ⟨rfl, by simpa using N231⟩ (Nat.le_of_ble_eq_true rfl) (Nat.le_of_ble_eq_true rfl)
      · refine g_iconst X67 hx (hb hby at_47) (n := (1 : Int32)) (by decide) (q := 48) rfl ?_
        refine g_goto X67 hx (hb hby at_48) (by decide) (q := 52) (by decide) ?_
        refine g_istore X67 hx (hb hby at_52) (L' := #[.val (.long a), .second, .val (.long b), .second, .val (.long incR), .second, .val (.long incX), .second, .val (.long s6), .second, .val (.int fl), .val (.long (own_stamp a)), .second, .val (.long (own_stamp b)), .second, .val (.int (1 : Int32)), .val (.int (1 : Int32)), .val (.int (1 : Int32)), .unset, .unset, .unset, .unset, .unset, .unset, .unset, .unset, .unset, .unset]) rfl (q := 54) rfl ?_
        refine g_iload X67 hx (hb hby at_54) (v := (1 : Int32)) rfl (q := 56) rfl ?_
        refine g_if_eq X67 hx (hb hby at_56) (by decide) (q := 64) (by decide) (q2 := 59) rfl (fun hb56 => absurd hb56 (by decide)) (fun hb56 => ?_)
        refine g_lload X67 hx (hb hby at_59) (v := (own_stamp a)) rfl (q := 61) rfl ?_
        refine g_goto X67 hx (hb hby at_61) (by decide) (q := 66) (by decide) ?_
        refine g_lstore X67 hx (hb hby at_66) (L' := #[.val (.long a), .second, .val (.long b), .second, .val (.long incR), .second, .val (.long incX), .second, .val (.long s6), .second, .val (.int fl), .val (.long (own_stamp a)), .second, .val (.long (own_stamp b)), .second, .val (.int (1 : Int32)), .val (.int (1 : Int32)), .val (.int (1 : Int32)), .val (.long (own_stamp a)), .second, .unset, .unset, .unset, .unset, .unset, .unset, .unset, .unset]) rfl (q := 68) rfl ?_
        refine g_iload X67 hx (hb hby at_68) (v := (1 : Int32)) rfl (q := 70) rfl ?_
        refine g_if_eq X67 hx (hb hby at_70) (by decide) (q := 78) (by decide) (q2 := 73) rfl (fun hb70 => absurd hb70 (by decide)) (fun hb70 => ?_)
        refine g_lload X67 hx (hb hby at_73) (v := incR) rfl (q := 75) rfl ?_
        refine g_goto X67 hx (hb hby at_75) (by decide) (q := 80) (by decide) ?_
        refine g_lstore X67 hx (hb hby at_80) (L' := #[.val (.long a), .second, .val (.long b), .second, .val (.long incR), .second, .val (.long incX), .second, .val (.long s6), .second, .val (.int fl), .val (.long (own_stamp a)), .second, .val (.long (own_stamp b)), .second, .val (.int (1 : Int32)), .val (.int (1 : Int32)), .val (.int (1 : Int32)), .val (.long (own_stamp a)), .second, .val (.long incR), .second, .unset, .unset, .unset, .unset, .unset, .unset]) rfl (q := 82) rfl ?_
        refine g_iload X67 hx (hb hby at_82) (v := (1 : Int32)) rfl (q := 84) rfl ?_
        refine g_if_eq X67 hx (hb hby at_84) (by decide) (q := 95) (by decide) (q2 := 87) rfl (fun hb84 => absurd hb84 (by decide)) (fun hb84 => ?_)
        refine g_lload X67 hx (hb hby at_87) (v := s6) rfl (q := 89) rfl ?_
        refine g_callS X67 hx hZ hown (hw _ (List.mem_of_getElem? (i := 0) rfl)) (hw _ (List.mem_of_getElem? (i := 1) rfl)) (hw _ (List.mem_of_getElem? (i := 2) rfl)) (hw _ (List.mem_of_getElem? (i := 3) rfl)) (by decide) e67 (rmS l Z a0 hw s6 h0) (by exact hml.symm) (argsL := [(.long s6)]) (rest := []) rfl rfl pd_3 rfl (Nat.le_of_ble_eq_true rfl) (Nat.le_of_ble_eq_true rfl) (Nat.le_of_ble_eq_true rfl) (Nat.le_of_ble_eq_true rfl) (hb hby at_89) (q := 92) rfl (g_pure rfl rfl fun T240 X240 e240 => ?_)
        show Go p e below _ (T240.setTop (mkF m 92 #[.val (.long a), .second, .val (.long b), .second, .val (.long incR), .second, .val (.long incX), .second, .val (.long s6), .second, .val (.int fl), .val (.long (own_stamp a)), .second, .val (.long (own_stamp b)), .second, .val (.int (1 : Int32)), .val (.int (1 : Int32)), .val (.int (1 : Int32)), .val (.long (own_stamp a)), .second, .val (.long incR), .second, .unset, .unset, .unset, .unset, .unset, .unset] [(.long (own_stamp s6))]))
        refine g_goto X240 hx (hb hby at_92) (by decide) (q := 97) (by decide) ?_
        refine g_lstore X240 hx (hb hby at_97) (L' := #[.val (.long a), .second, .val (.long b), .second, .val (.long incR), .second, .val (.long incX), .second, .val (.long s6), .second, .val (.int fl), .val (.long (own_stamp a)), .second, .val (.long (own_stamp b)), .second, .val (.int (1 : Int32)), .val (.int (1 : Int32)), .val (.int (1 : Int32)), .val (.long (own_stamp a)), .second, .val (.long incR), .second, .val (.long (own_stamp s6)), .second, .unset, .unset, .unset, .unset]) rfl (q := 99) rfl ?_
        refine g_iload X240 hx (hb hby at_99) (v := (1 : Int32)) rfl (q := 101) rfl ?_
        refine g_if_eq X240 hx (hb hby at_101) (by decide) (q := 110) (by decide) (q2 := 104) rfl (fun hb101 => absurd hb101 (by decide)) (fun hb101 => ?_)
        refine g_getS X240 hx hZ hown (hw _ (List.mem_of_getElem? (i := 52) rfl)) Via.refl e240 SP (hb hby at_104) (q := 107) rfl fun T241 X241 e241 => ?_
        refine g_goto X241 hx (hb hby at_107) (by decide) (q := 113) (by decide) ?_
        refine g_astore X241 hx (hb hby at_113) rfl (L' := #[.val (.long a), .second, .val (.long b), .second, .val (.long incR), .second, .val (.long incX), .second, .val (.long s6), .second, .val (.int fl), .val (.long (own_stamp a)), .second, .val (.long (own_stamp b)), .second, .val (.int (1 : Int32)), .val (.int (1 : Int32)), .val (.int (1 : Int32)), .val (.long (own_stamp a)), .second, .val (.long incR), .second, .val (.long (own_stamp s6)), .second, .val (.ref wp), .unset, .unset, .unset]) rfl (q := 115) rfl ?_
        refine g_new X241 hx hZ hown (hw _ (List.mem_of_getElem? (i := 8) rfl)) (hw _ (List.mem_of_getElem? (i := 9) rfl)) (hw _ (List.mem_of_getElem? (i := 10) rfl)) e241 (hb hby at_115) (Nat.le_of_ble_eq_true rfl) (Nat.le_of_ble_eq_true rfl) (q := 118) rfl fun T242 h242 b1 g242 X242 e242 E242 A242 D242 => ?_
        have ge_b1 : n0 ≤ b1 := Nat.le_trans Z0 (Nat.le_of_eq g242.symm)
        have z_242 := Nat.le_trans Z0 E242.1
        have hk_242 := Nat.le_trans hk E242.1
        have f243 := (SQ.ext E242)
        have f244 := (SP.ext E242)
        have F242_type : Fld Z h242 b1 "com/example/bullyring/bullyring/core/mutex/RicartAgrawalaMessage" "type" "Lcom/example/bullyring/bullyring/core/mutex/RicartAgrawalaMessage$Type;" .null := D242 (Or.inr (hw _ (List.mem_of_getElem? (i := 40) rfl))) (ty := (.object "com/example/bullyring/bullyring/core/mutex/RicartAgrawalaMessage$Type")) (by decide)
        have F242_stamp : Fld Z h242 b1 "com/example/bullyring/bullyring/core/mutex/RicartAgrawalaMessage" "stamp" "J" (.long (0 : Int64)) := D242 (Or.inr (hw _ (List.mem_of_getElem? (i := 42) rfl))) (ty := .long) (by decide)
        have F242_requestStamp : Fld Z h242 b1 "com/example/bullyring/bullyring/core/mutex/RicartAgrawalaMessage" "requestStamp" "J" (.long (0 : Int64)) := D242 (Or.inr (hw _ (List.mem_of_getElem? (i := 44) rfl))) (ty := .long) (by decide)
        have F242_incarnation : Fld Z h242 b1 "com/example/bullyring/bullyring/core/mutex/RicartAgrawalaMessage" "incarnation" "J" (.long (0 : Int64)) := D242 (Or.inr (hw _ (List.mem_of_getElem? (i := 46) rfl))) (ty := .long) (by decide)
        refine g_dup X242 hx (hb hby at_118) rfl (q := 119) rfl ?_
        refine g_getS X242 hx hZ hown (hw _ (List.mem_of_getElem? (i := 5) rfl)) Via.refl e242 f243 (hb hby at_119) (q := 122) rfl fun T245 X245 e245 => ?_
        refine g_lload X245 hx (hb hby at_122) (v := (own_stamp a)) rfl (q := 124) rfl ?_
        refine g_lload X245 hx (hb hby at_124) (v := (own_stamp a)) rfl (q := 126) rfl ?_
        refine g_lload X245 hx (hb hby at_126) (v := incR) rfl (q := 128) rfl ?_
        refine g_callIW X245 hx hZ hown rfl (hw _ (List.mem_of_getElem? (i := 11) rfl)) (hw _ (List.mem_of_getElem? (i := 12) rfl)) (hw _ (List.mem_of_getElem? (i := 13) rfl)) (hw _ (List.mem_of_getElem? (i := 10) rfl)) (by decide) e245 hS hk_242 (b := b1) (rmC l Z a0 hw b1 wq wq (own_stamp a) (own_stamp a) incR (own_stamp_ok _) (own_stamp_ok _) (fun _ => rfl) h242 n0 ge_b1 f243 A242 F242_type F242_stamp F242_requestStamp F242_incarnation) (by exact hml.symm) (argsL := [(.ref wq), (.long (own_stamp a)), (.long (own_stamp a)), (.long incR)]) (rest := [(.ref b1)]) rfl rfl pd_4 rfl (Nat.le_of_ble_eq_true rfl) (Nat.le_of_ble_eq_true rfl) (Nat.le_of_ble_eq_true rfl) (Nat.le_of_ble_eq_true rfl) (hb hby at_128) (q := 131) rfl fun v246 T246 L246 h246 e246 X246 hS246 hZ246 hown246 hQ246 => ?_
        obtain ⟨rfl, M246, K246, A246, B246, C246⟩ := hQ246
        have N246 := Fr.app (Fr.nil n0) M246
        have z_246 := Nat.le_trans z_242 K246.1
        have f247 := (own_sta_keep f243 K246 (nsS A242.nostat ns0))
        have f248 := (own_sta_keep f244 K246 (nsS A242.nostat ns0))
        have f249 := (A242.keep K246)
        show Go p e below _ (T246.setTop (mkF m 131 #[.val (.long a), .second, .val (.long b), .second, .val (.long incR), .second, .val (.long incX), .second, .val (.long s6), .second, .val (.int fl), .val (.long (own_stamp a)), .second, .val (.long (own_stamp b)), .second, .val (.int (1 : Int32)), .val (.int (1 : Int32)), .val (.int (1 : Int32)), .val (.long (own_stamp a)), .second, .val (.long incR), .second, .val (.long (own_stamp s6)), .second, .val (.ref wp), .unset, .unset, .unset] [(.ref b1)]))
        refine g_astore X246 hx (hb hby at_131) rfl (L' := #[.val (.long a), .second, .val (.long b), .second, .val (.long incR), .second, .val (.long incX), .second, .val (.long s6), .second, .val (.int fl), .val (.long (own_stamp a)), .second, .val (.long (own_stamp b)), .second, .val (.int (1 : Int32)), .val (.int (1 : Int32)), .val (.int (1 : Int32)), .val (.long (own_stamp a)), .second, .val (.long incR), .second, .val (.long (own_stamp s6)), .second, .val (.ref wp), .val (.ref b1), .unset, .unset]) rfl (q := 133) rfl ?_
        refine g_new X246 hx hZ246 hown246 (hw _ (List.mem_of_getElem? (i := 8) rfl)) (hw _ (List.mem_of_getElem? (i := 9) rfl)) (hw _ (List.mem_of_getElem? (i := 10) rfl)) e246 (hb hby at_133) (Nat.le_of_ble_eq_true rfl) (Nat.le_of_ble_eq_true rfl) (q := 136) rfl fun T250 h250 b2 g250 X250 e250 E250 A250 D250 => ?_
        have ne_b1_b2 : b1 ≠ b2 := Nat.ne_of_lt (Nat.lt_of_lt_of_le A246.lt (Nat.le_of_eq g250.symm))
        have ge_b2 : n0 ≤ b2 := Nat.le_trans z_246 (Nat.le_of_eq g250.symm)
        have z_250 := Nat.le_trans z_246 E250.1
        have hk_250 := Nat.le_trans (Nat.le_refl _) E250.1
        have f251 := (f247.ext E250)
        have f252 := (f248.ext E250)
        have f253 := (A246.ext E250)
        have f254 := (B246.ext E250)
        have f255 := (C246.ext E250)
        have F250_type : Fld Z h250 b2 "com/example/bullyring/bullyring/core/mutex/RicartAgrawalaMessage" "type" "Lcom/example/bullyring/bullyring/core/mutex/RicartAgrawalaMessage$Type;" .null := D250 (Or.inr (hw _ (List.mem_of_getElem? (i := 40) rfl))) (ty := (.object "com/example/bullyring/bullyring/core/mutex/RicartAgrawalaMessage$Type")) (by decide)
        have F250_stamp : Fld Z h250 b2 "com/example/bullyring/bullyring/core/mutex/RicartAgrawalaMessage" "stamp" "J" (.long (0 : Int64)) := D250 (Or.inr (hw _ (List.mem_of_getElem? (i := 42) rfl))) (ty := .long) (by decide)
        have F250_requestStamp : Fld Z h250 b2 "com/example/bullyring/bullyring/core/mutex/RicartAgrawalaMessage" "requestStamp" "J" (.long (0 : Int64)) := D250 (Or.inr (hw _ (List.mem_of_getElem? (i := 44) rfl))) (ty := .long) (by decide)
        have F250_incarnation : Fld Z h250 b2 "com/example/bullyring/bullyring/core/mutex/RicartAgrawalaMessage" "incarnation" "J" (.long (0 : Int64)) := D250 (Or.inr (hw _ (List.mem_of_getElem? (i := 46) rfl))) (ty := .long) (by decide)
        refine g_dup X250 hx (hb hby at_136) rfl (q := 137) rfl ?_
        refine g_aload X250 hx (hb hby at_137) (v := (.ref wp)) rfl rfl (q := 139) rfl ?_
        refine g_lload X250 hx (hb hby at_139) (v := (own_stamp s6)) rfl (q := 141) rfl ?_
        refine g_lload X250 hx (hb hby at_141) (v := (own_stamp a)) rfl (q := 143) rfl ?_
        refine g_lload X250 hx (hb hby at_143) (v := incR) rfl (q := 145) rfl ?_
        refine g_callIW X250 hx hZ246 hown246 rfl (hw _ (List.mem_of_getElem? (i := 11) rfl)) (hw _ (List.mem_of_getElem? (i := 12) rfl)) (hw _ (List.mem_of_getElem? (i := 13) rfl)) (hw _ (List.mem_of_getElem? (i := 10) rfl)) (by decide) e250 hS246 hk_250 (b := b2) (rmC l Z a0 hw b2 wp wq (own_stamp s6) (own_stamp a) incR (own_stamp_ok _) (own_stamp_ok _) (fun q => absurd q.symm nw) h250 n0 ge_b2 f251 A250 F250_type F250_stamp F250_requestStamp F250_incarnation) (by exact hml.symm) (argsL := [(.ref wp), (.long (own_stamp s6)), (.long (own_stamp a)), (.long incR)]) (rest := [(.ref b2)]) rfl rfl pd_4 rfl (Nat.le_of_ble_eq_true rfl) (Nat.le_of_ble_eq_true rfl) (Nat.le_of_ble_eq_true rfl) (Nat.le_of_ble_eq_true rfl) (hb hby at_145) (q := 148) rfl fun v256 T256 L256 h256 e256 X256 hS256 hZ256 hown256 hQ256 => ?_
        obtain ⟨rfl, M256, K256, A256, B256, C256⟩ := hQ256
        have N256 := Fr.app N246 M256
        have z_256 := Nat.le_trans z_250 K256.1
        have f257 := (own_sta_keep f251 K256 (nsS A250.nostat ns0))
        have f258 := (own_sta_keep f252 K256 (nsS A250.nostat ns0))
        have f259 := (f253.keep K256)
        have f260 := (f254.keep K256 (ninS ne_b1_b2 nin0))
        have f261 := (f255.keep K256 (ninS ne_b1_b2 nin0))
        have f262 := (A250.keep K256)
        show Go p e below _ (T256.setTop (mkF m 148 #[.val (.long a), .second, .val (.long b), .second, .val (.long incR), .second, .val (.long incX), .second, .val (.long s6), .second, .val (.int fl), .val (.long (own_stamp a)), .second, .val (.long (own_stamp b)), .second, .val (.int (1 : Int32)), .val (.int (1 : Int32)), .val (.int (1 : Int32)), .val (.long (own_stamp a)), .second, .val (.long incR), .second, .val (.long (own_stamp s6)), .second, .val (.ref wp), .val (.ref b1), .unset, .unset] [(.ref b2)]))
        refine g_astore X256 hx (hb hby at_148) rfl (L' := #[.val (.long a), .second, .val (.long b), .second, .val (.long incR), .second, .val (.long incX), .second, .val (.long s6), .second, .val (.int fl), .val (.long (own_stamp a)), .second, .val (.long (own_stamp b)), .second, .val (.int (1 : Int32)), .val (.int (1 : Int32)), .val (.int (1 : Int32)), .val (.long (own_stamp a)), .second, .val (.long incR), .second, .val (.long (own_stamp s6)), .second, .val (.ref wp), .val (.ref b1), .val (.ref b2), .unset]) rfl (q := 150) rfl ?_
        refine g_iload X256 hx (hb hby at_150) (v := (1 : Int32)) rfl (q := 152) rfl ?_
        refine g_if_ne X256 hx (hb hby at_152) (by decide) (q := 163) (by decide) (q2 := 155) rfl (fun hb152 => ?_) (fun hb152 => absurd hb152 (by decide))
        refine g_iload X256 hx (hb hby at_163) (v := (1 : Int32)) rfl (q := 165) rfl ?_
        refine g_if_ne X256 hx (hb hby at_165) (by decide) (q := 176) (by decide) (q2 := 168) rfl (fun hb165 => ?_) (fun hb165 => absurd hb165 (by decide))
        refine g_iconst X256 hx (hb hby at_176) (n := (1 : Int32)) (by decide) (q := 177) rfl ?_
        refine g_goto X256 hx (hb hby at_177) (by decide) (q := 181) (by decide) ?_
        refine g_istore X256 hx (hb hby at_181) (L' := #[.val (.long a), .second, .val (.long b), .second, .val (.long incR), .second, .val (.long incX), .second, .val (.long s6), .second, .val (.int fl), .val (.long (own_stamp a)), .second, .val (.long (own_stamp b)), .second, .val (.int (1 : Int32)), .val (.int (1 : Int32)), .val (.int (1 : Int32)), .val (.long (own_stamp a)), .second, .val (.long incR), .second, .val (.long (own_stamp s6)), .second, .val (.ref wp), .val (.ref b1), .val (.ref b2), .val (.int (1 : Int32))]) rfl (q := 183) rfl ?_
        refine g_aload X256 hx (hb hby at_183) (v := (.ref b2)) rfl rfl (q := 185) rfl ?_
        refine g_aload X256 hx (hb hby at_185) (v := (.ref b1)) rfl rfl (q := 187) rfl ?_
        refine g_callV X256 hx hZ256 hown256 (hw _ (List.mem_of_getElem? (i := 47) rfl)) (hw _ (List.mem_of_getElem? (i := 48) rfl)) (hw _ (List.mem_of_getElem? (i := 50) rfl)) (hw _ (List.mem_of_getElem? (i := 49) rfl)) (hw _ (List.mem_of_getElem? (i := 51) rfl)) (hw _ (List.mem_of_getElem? (i := 10) rfl)) (notFace_of_selects (args := #[]) (mvT hZ256 (hw _ (List.mem_of_getElem? (i := 50) rfl)))) (by decide) e256 A256 (rmNm l Z a0 hw b2 b1 (own_stamp a) incR (own_stamp a) incR h256 B256 C256 f260 f261 (1 : Int32) (by simp)) (by exact hml.symm) (argsL := [(.ref b1)]) (rest := []) rfl rfl pd_5 rfl (Nat.le_of_ble_eq_true rfl) (Nat.le_of_ble_eq_true rfl) (Nat.le_of_ble_eq_true rfl) (Nat.le_of_ble_eq_true rfl) (hb hby at_187) (q := 190) rfl (g_pure rfl rfl fun T263 X263 e263 => ?_)
        show Go p e below _ (T263.setTop (mkF m 190 #[.val (.long a), .second, .val (.long b), .second, .val (.long incR), .second, .val (.long incX), .second, .val (.long s6), .second, .val (.int fl), .val (.long (own_stamp a)), .second, .val (.long (own_stamp b)), .second, .val (.int (1 : Int32)), .val (.int (1 : Int32)), .val (.int (1 : Int32)), .val (.long (own_stamp a)), .second, .val (.long incR), .second, .val (.long (own_stamp s6)), .second, .val (.ref wp), .val (.ref b1), .val (.ref b2), .val (.int (1 : Int32))] [(.int (1 : Int32))]))
        refine g_iload X263 hx (hb hby at_190) (v := (1 : Int32)) rfl (q := 192) rfl ?_
        refine g_icmp_ne X263 hx (hb hby at_192) (by decide) (q := 199) (by decide) (q2 := 195) rfl (fun hb192 => absurd hb192 (by decide)) (fun hb192 => ?_)
        refine g_iconst X263 hx (hb hby at_195) (n := (1 : Int32)) (by decide) (q := 196) rfl ?_
        refine g_goto X263 hx (hb hby at_196) (by decide) (q := 200) (by decide) ?_
        exact g_retBW X263 hS256 (by rw [e263]; exact (Nat.le_refl _)) hx hret hlk (hb hby at_200) (by decide) ⟨rfl, by simpa using N256⟩ (Nat.le_of_ble_eq_true rfl) (Nat.le_of_ble_eq_true rfl)
set_option maxRecDepth 65536 in
set_option maxHeartbeats 40000000 in
theorem comes_1 {Post : Tables → Env → Array Value → State → Outcome → State → Prop} (hpost : ∀ tb e args s v u, (limb_1_1.after args s (.returned v) u = true ∧ limb_1_2.after args s (.returned v) u = true ∧ True) → ReturnedEndW s (.returned v) u (Jvm.fieldLocs frame_1_writes args s ++ Jvm.arrayLocs frame_1_arrays args s ++ Jvm.staticLocs frame_1_statics s) 16 1152 → Post tb e args s (.returned v) u) :
    ArmFor flags0 classFile x code maxLocals ret World_1 tables_1 room_1 Calls_1 rest_1 Pre_1 Post := by
  intro l hfl _ _ p e ha hc hk s m args below hf hA hF happ hP
  obtain ⟨hcalls, hrest, hpre⟩ := hP
  obtain ⟨-, -, -, hnamed, -, -, -, hat⟩ := (Spec.applies_iff hf).mp happ
  obtain ⟨hg, hn⟩ := and_e (Cond.before_iff.mp (show (Jvm.Cond.and given_1 narrow_1).before args s = true from hpre))
  obtain ⟨gc, gr0⟩ := and_e hg
  obtain ⟨ga0, gr1⟩ := and_e gr0
  obtain ⟨ga1, gr2⟩ := and_e gr1
  obtain ⟨ga2, gr3⟩ := and_e gr2
  obtain ⟨ga3, gr4⟩ := and_e gr3
  obtain ⟨ga4, gr5⟩ := and_e gr4
  have ga5 := gr5
  obtain ⟨w0, w1, w2, w3, w4, w5, rfl⟩ : ∃ w0 w1 w2 w3 w4 w5 : Value, args = #[w0, w1, w2, w3, w4, w5] := by
    have hs : args.size = 6 := by simpa [Cond.value, given_1] using gc
    obtain ⟨L⟩ := args
    match L, hs with
    | [w0, w1, w2, w3, w4, w5], _ => exact ⟨w0, w1, w2, w3, w4, w5, rfl⟩
  have hw := fun d (hd : d ∈ tables_1) => atoms_spec (ws := Jvm.Cond.code x code maxLocals ret :: tables_1) hat d (List.mem_cons_of_mem _ hd)
  have hfit : Fit s := fun {y c} hc i hi => by
    obtain ⟨ha, rfl⟩ := Array.getElem?_eq_some_iff.mp hc
    have q := List.all_eq_true.mp ((Array.all_eq_true_iff_forall_mem.mp hF) _ (Array.getElem_mem ha)) i (List.mem_range.mpr hi)
    simpa [Array.getElem?_eq_getElem hi] using q
  obtain ⟨i0, ei0⟩ := isL_v ga0
  obtain rfl : w0 = (.long i0) := Option.some.inj ei0
  obtain ⟨i1, ei1⟩ := isL_v ga1
  obtain rfl : w1 = (.long i1) := Option.some.inj ei1
  obtain ⟨i2, ei2⟩ := isL_v ga2
  obtain rfl : w2 = (.long i2) := Option.some.inj ei2
  obtain ⟨i3, ei3⟩ := isL_v ga3
  obtain rfl : w3 = (.long i3) := Option.some.inj ei3
  obtain ⟨i4, ei4⟩ := isL_v ga4
  obtain rfl : w4 = (.long i4) := Option.some.inj ei4
  obtain ⟨i5, ei5⟩ := is_v ga5
  obtain rfl : w5 = (.int i5) := Option.some.inj ei5
  obtain ⟨n1, nr1⟩ := and_e hn
  obtain ⟨n2, nr2⟩ := and_e nr1
  obtain ⟨n3, nr3⟩ := and_e nr2
  have n4 := nr3
  obtain ⟨a1, ev1⟩ := exa_v n1
  have S1 := Sta.start ev1 (Or.inr ⟨(hw _ (List.mem_of_getElem? (i := 6) rfl)), (hw _ (List.mem_of_getElem? (i := 7) rfl))⟩)
  obtain ⟨a2, ev2⟩ := exa_v n2
  have S2 := Sta.start ev2 (Or.inr ⟨(hw _ (List.mem_of_getElem? (i := 6) rfl)), (hw _ (List.mem_of_getElem? (i := 53) rfl))⟩)
  have F2 := own_fldI ev2 n3
  have F1 := own_fldI ev1 n4
  obtain ⟨n, o, h1, h2, h3, _, L, rfl, ⟨rfl, N⟩, hq⟩ := rm0 l s _ hw i0 i1 i2 i3 i4 i5 a1 a2 s.heap s.heap.size (Nat.le_refl _) (F1.ne F2 (by decide)) S1 S2 tables_1 p e ha hc hk s m _ below hf ((Spec.applies_iff_loose hf).mp happ).1 ⟨rfl, State.Warmed39.refl s, rfl⟩ trivial
  refine ⟨n, _, h1, h2, h3, hpost _ _ _ _ _ _ ⟨Cond.after_iff.mpr rfl, Cond.after_iff.mpr (eq_i res_at (Term.int_eval (1)) rfl), trivial⟩ ⟨hq.1, hq.2.1, hq.2.2.1, (hq.2.2.2.sift fun y hy => Or.inr (N y hy)).mono (by decide) (by decide)⟩⟩
theorem main_1_1 : Claimed_1_1 := comes_1 fun _ _ _ _ _ _ h hF => ⟨h.1, hF⟩
theorem main_1_2 : Claimed_1_2 := comes_1 fun _ _ _ _ _ _ h hF => ⟨h.2.1, hF⟩
end Jvm.Pilot.@@N@@
namespace Jvm.Pilot.@@N@@
open Jvm Jvm.ClassFile Sem Op Lib Jvm.Free Jvm.Stand Jvm.Pilot.@@N@@.Jvm.D
/-! MADE BY PROGRAM (witnessworld.py) out of the Statement's table words and the real class files: 19 classes; the members and pool entries that the words name. The judged class is class 1, her method 2. -/
namespace start1
open Jvm.ClassFile
def u (s : String) : CpInfo := .utf8 (stringToUtf16 s)
/-- a pool by its gaps: so many unusable entries, then the entry; so many at the end -/
def gap : Nat → List CpInfo → List CpInfo
  | 0, r => r
  | n + 1, r => .unusable :: gap n r
def poolList (es : List (Nat × CpInfo)) (last : Nat) : List CpInfo := es.foldr (fun e r => gap e.1 (e.2 :: r)) (gap last [])
def pool (es : List (Nat × CpInfo)) (last : Nat) : Array CpInfo := ⟨poolList es last⟩
def fileOf (pool : Array CpInfo) (this : Nat) (attrs : Array Attribute := #[]) (ms : Array MethodInfo := #[]) (fl : Nat := 33) (sup : Nat := 0) (ifs : Array Nat := #[]) (fds : Array FieldInfo := #[]) : ClassFile where
  minorVersion := 0
  majorVersion := 65
  constantPool := pool
  accessFlags := fl
  thisClass := this
  superClass := sup
  interfaces := ifs
  fields := fds
  methods := ms
  attributes := attrs
def plain (name : String) (sup : Option ClassId) : Class where
  name := name
  kind := .ordinary
  loader := none
  accessFlags := 33
  super := sup
  interfaces := #[]
  cf := none
  fields := #[]
  methods := #[]
  instanceTypes := #[]
  staticTypes := #[]
  resolved := #[]
  callSites := []
  init := .initialized
  statics := none
  mirror := none

def pool0 : Array CpInfo := pool [(5, u "<init>"), (0, u "()V"), (1, .class_ 10), (1, u "java/lang/Object")] 113

def k0c0 : Code := { maxStack := 0, maxLocals := 1, code := object_method_1_code, exceptionTable := #[], attributes := #[] }
def k0m0 : Method := { name := "<init>", desc := "()V", sig := { parameters := [], returnType := none }, accessFlags := 1, code := some k0c0 }
/-- java/lang/Object -/
def k0 : Class := { plain "java/lang/Object" none with
  accessFlags := 33
  interfaces := #[]
  cf := some (fileOf pool0 8 #[] #[{ accessFlags := 1, nameIndex := 5, descriptorIndex := 6, attributes := #[] }] 33 0 #[] #[])
  fields := #[]
  methods := #[k0m0]
  instanceTypes := #[]
  staticTypes := #[]
  resolved := Array.replicate 124 none
  statics := none }

def pool1 : Array CpInfo := pool [(2, .class_ 4), (1, u "java/lang/Object"), (0, u "<init>"), (0, u "()V"), (2, .long 9223372036854775807), (1, .methodref 12 13), (0, .class_ 14), (0, .nameAndType 15 16), (0, u "com/example/bullyring/bullyring/core/mutex/RicartAgrawalaMessageNamesPinLaw"), (0, u "stampOf"), (0, u "(J)J"), (0, .fieldref 18 19), (0, .class_ 20), (0, .nameAndType 21 22), (0, u "com/example/bullyring/bullyring/core/mutex/RicartAgrawalaMessage$Type"), (0, u "REPLY"), (0, u "Lcom/example/bullyring/bullyring/core/mutex/RicartAgrawalaMessage$Type;"), (0, .fieldref 18 24), (0, .nameAndType 25 22), (0, u "REQUEST"), (0, .class_ 27), (0, u "com/example/bullyring/bullyring/core/mutex/RicartAgrawalaMessage"), (0, .methodref 26 29), (0, .nameAndType 5 30), (0, u "(Lcom/example/bullyring/bullyring/core/mutex/RicartAgrawalaMessage$Type;JJJ)V"), (0, .methodref 26 32), (0, .nameAndType 33 34), (0, u "names"), (0, u "(Lcom/example/bullyring/bullyring/core/mutex/RicartAgrawalaMessage;)Z"), (3, u "law"), (0, u "(JJJJJI)Z")] 4

def k1m0 : Method := { name := "<init>", desc := "()V", sig := { parameters := [], returnType := none }, accessFlags := 1, code := none }
def k1c1 : Code := { maxStack := 4, maxLocals := 4, code := method_2_code, exceptionTable := #[], attributes := #[] }
def k1m1 : Method := { name := "stampOf", desc := "(J)J", sig := { parameters := [.long], returnType := some .long }, accessFlags := 10, code := some k1c1 }
def k1c2 : Code := { maxStack := 9, maxLocals := 28, code := code, exceptionTable := #[], attributes := #[] }
def k1m2 : Method := { name := "law", desc := "(JJJJJI)Z", sig := { parameters := [.long, .long, .long, .long, .long, .int], returnType := some .boolean }, accessFlags := 9, code := some k1c2 }
/-- com/example/bullyring/bullyring/core/mutex/RicartAgrawalaMessageNamesPinLaw -/
def k1 : Class := { plain "com/example/bullyring/bullyring/core/mutex/RicartAgrawalaMessageNamesPinLaw" (some 0) with
  accessFlags := 49
  interfaces := #[]
  cf := some (fileOf pool1 12 #[] #[{ accessFlags := 1, nameIndex := 5, descriptorIndex := 6, attributes := #[] }, { accessFlags := 10, nameIndex := 15, descriptorIndex := 16, attributes := #[] }, { accessFlags := 9, nameIndex := 38, descriptorIndex := 39, attributes := #[] }] 49 2 #[] #[])
  fields := #[]
  methods := #[k1m0, k1m1, k1m2]
  instanceTypes := #[]
  staticTypes := #[]
  resolved := Array.replicate 44 none
  statics := none }

def pool2 : Array CpInfo := pool [(1, .class_ 2), (0, u "java/lang/constant/Constable"), (0, .class_ 4), (0, u "java/lang/Object")] 6

/-- java/lang/constant/Constable -/
def k2 : Class := { plain "java/lang/constant/Constable" (some 0) with
  accessFlags := 1537
  interfaces := #[]
  cf := some (fileOf pool2 1 #[] #[] 1537 3 #[] #[])
  fields := #[]
  methods := #[]
  instanceTypes := #[]
  staticTypes := #[]
  resolved := Array.replicate 11 none
  statics := none }

def pool3 : Array CpInfo := pool [(1, .class_ 2), (0, u "java/lang/Comparable"), (0, .class_ 4), (0, u "java/lang/Object")] 7

/-- java/lang/Comparable -/
def k3 : Class := { plain "java/lang/Comparable" (some 0) with
  accessFlags := 1537
  interfaces := #[]
  cf := some (fileOf pool3 1 #[] #[] 1537 3 #[] #[])
  fields := #[]
  methods := #[]
  instanceTypes := #[]
  staticTypes := #[]
  resolved := Array.replicate 12 none
  statics := none }

def pool4 : Array CpInfo := pool [(1, .class_ 2), (0, u "java/io/Serializable"), (0, .class_ 4), (0, u "java/lang/Object")] 2

/-- java/io/Serializable -/
def k4 : Class := { plain "java/io/Serializable" (some 0) with
  accessFlags := 1537
  interfaces := #[]
  cf := some (fileOf pool4 1 #[] #[] 1537 3 #[] #[])
  fields := #[]
  methods := #[]
  instanceTypes := #[]
  staticTypes := #[]
  resolved := Array.replicate 7 none
  statics := none }

def pool5 : Array CpInfo := pool [(2, .class_ 4), (1, u "java/lang/Enum"), (0, u "name"), (0, u "Ljava/lang/String;"), (2, u "ordinal"), (0, u "I"), (1, .class_ 14), (1, u "java/lang/Object"), (4, u "hash"), (86, .class_ 108), (1, u "java/lang/Enum$EnumDesc"), (2, .class_ 112), (0, u "java/lang/constant/Constable"), (0, .class_ 114), (0, u "java/lang/Comparable"), (0, .class_ 116), (0, u "java/io/Serializable")] 87

/-- java/lang/Enum -/
def k5 : Class := { plain "java/lang/Enum" (some 0) with
  accessFlags := 1057
  interfaces := #[2, 3, 4]
  cf := some (fileOf pool5 2 #[.nestMembers #[106]] #[] 1057 12 #[111, 113, 115] #[{ accessFlags := 18, nameIndex := 5, descriptorIndex := 6, attributes := #[] }, { accessFlags := 18, nameIndex := 9, descriptorIndex := 10, attributes := #[] }, { accessFlags := 2, nameIndex := 19, descriptorIndex := 10, attributes := #[] }])
  fields := #[{ name := "name", type := (.object "java/lang/String"), accessFlags := 18, slot := 0, constantValue := 0 }, { name := "ordinal", type := .int, accessFlags := 18, slot := 1, constantValue := 0 }, { name := "hash", type := .int, accessFlags := 2, slot := 2, constantValue := 0 }]
  methods := #[]
  instanceTypes := #[(.object "java/lang/String"), .int, .int]
  staticTypes := #[]
  resolved := Array.replicate 204 none
  statics := none }

def pool6 : Array CpInfo := pool [(1, .class_ 2), (0, u "com/example/bullyring/bullyring/core/mutex/RicartAgrawalaMessage$Type"), (2, u "REQUEST"), (0, u "Lcom/example/bullyring/bullyring/core/mutex/RicartAgrawalaMessage$Type;"), (2, u "REPLY"), (2, u "$VALUES"), (0, u "[Lcom/example/bullyring/bullyring/core/mutex/RicartAgrawalaMessage$Type;"), (6, .class_ 22), (1, u "java/lang/Enum"), (33, .class_ 57), (0, u "com/example/bullyring/bullyring/core/mutex/RicartAgrawalaMessage")] 2

/-- com/example/bullyring/bullyring/core/mutex/RicartAgrawalaMessage$Type -/
def k6 : Class := { plain "com/example/bullyring/bullyring/core/mutex/RicartAgrawalaMessage$Type" (some 5) with
  accessFlags := 16433
  interfaces := #[]
  cf := some (fileOf pool6 1 #[.nestHost 56] #[] 16433 20 #[] #[{ accessFlags := 16409, nameIndex := 5, descriptorIndex := 6, attributes := #[] }, { accessFlags := 16409, nameIndex := 9, descriptorIndex := 6, attributes := #[] }, { accessFlags := 4122, nameIndex := 12, descriptorIndex := 13, attributes := #[] }])
  fields := #[{ name := "REQUEST", type := (.object "com/example/bullyring/bullyring/core/mutex/RicartAgrawalaMessage$Type"), accessFlags := 16409, slot := 0, constantValue := 0 }, { name := "REPLY", type := (.object "com/example/bullyring/bullyring/core/mutex/RicartAgrawalaMessage$Type"), accessFlags := 16409, slot := 1, constantValue := 0 }, { name := "$VALUES", type := (.array (.object "com/example/bullyring/bullyring/core/mutex/RicartAgrawalaMessage$Type")), accessFlags := 4122, slot := 2, constantValue := 0 }]
  methods := #[]
  instanceTypes := #[(.object "java/lang/String"), .int, .int]
  staticTypes := #[(.object "com/example/bullyring/bullyring/core/mutex/RicartAgrawalaMessage$Type"), (.object "com/example/bullyring/bullyring/core/mutex/RicartAgrawalaMessage$Type"), (.array (.object "com/example/bullyring/bullyring/core/mutex/RicartAgrawalaMessage$Type"))]
  resolved := Array.replicate 60 none
  statics := some 0 }

def pool7 : Array CpInfo := pool [(1, .methodref 2 3), (0, .class_ 4), (0, .nameAndType 5 6), (0, u "java/lang/Object"), (0, u "<init>"), (0, u "()V"), (0, .class_ 8), (0, u "java/lang/Record")] 13

def k7c0 : Code := { maxStack := 1, maxLocals := 1, code := jdk_30_method_1_code, exceptionTable := #[], attributes := #[] }
def k7m0 : Method := { name := "<init>", desc := "()V", sig := { parameters := [], returnType := none }, accessFlags := 4, code := some k7c0 }
/-- java/lang/Record -/
def k7 : Class := { plain "java/lang/Record" (some 0) with
  accessFlags := 1057
  interfaces := #[]
  cf := some (fileOf pool7 7 #[] #[{ accessFlags := 4, nameIndex := 5, descriptorIndex := 6, attributes := #[] }] 1057 2 #[] #[])
  fields := #[]
  methods := #[k7m0]
  instanceTypes := #[]
  staticTypes := #[]
  resolved := Array.replicate 22 none
  statics := none }

def pool8 : Array CpInfo := pool [(1, .methodref 2 3), (0, .class_ 4), (0, .nameAndType 5 6), (0, u "java/lang/Record"), (0, u "<init>"), (0, u "()V"), (0, .string 8), (0, u "type"), (0, .methodref 10 11), (0, .class_ 12), (0, .nameAndType 13 14), (0, u "java/util/Objects"), (0, u "requireNonNull"), (0, u "(Ljava/lang/Object;Ljava/lang/String;)Ljava/lang/Object;"), (0, .methodref 16 17), (0, .class_ 18), (0, .nameAndType 19 20), (0, u "com/example/bullyring/bullyring/core/clock/LamportClock"), (0, u "requireStamp"), (0, u "(J)V"), (0, .fieldref 22 23), (0, .class_ 24), (0, .nameAndType 25 26), (0, u "com/example/bullyring/bullyring/core/mutex/RicartAgrawalaMessage$Type"), (0, u "REQUEST"), (0, u "Lcom/example/bullyring/bullyring/core/mutex/RicartAgrawalaMessage$Type;"), (9, .fieldref 37 38), (0, .class_ 39), (0, .nameAndType 8 26), (0, u "com/example/bullyring/bullyring/core/mutex/RicartAgrawalaMessage"), (0, .fieldref 37 41), (0, .nameAndType 42 43), (0, u "stamp"), (0, u "J"), (0, .fieldref 37 45), (0, .nameAndType 46 43), (0, u "requestStamp"), (0, .fieldref 37 48), (0, .nameAndType 49 43), (0, u "incarnation"), (2, u "(Lcom/example/bullyring/bullyring/core/mutex/RicartAgrawalaMessage$Type;JJJ)V"), (27, u "names"), (0, u "(Lcom/example/bullyring/bullyring/core/mutex/RicartAgrawalaMessage;)Z")] 37

def k8c0 : Code := { maxStack := 6, maxLocals := 8, code := prog_31_method_1_code, exceptionTable := #[], attributes := #[] }
def k8m0 : Method := { name := "<init>", desc := "(Lcom/example/bullyring/bullyring/core/mutex/RicartAgrawalaMessage$Type;JJJ)V", sig := { parameters := [(.object "com/example/bullyring/bullyring/core/mutex/RicartAgrawalaMessage$Type"), .long, .long, .long], returnType := none }, accessFlags := 1, code := some k8c0 }
def k8c1 : Code := { maxStack := 4, maxLocals := 2, code := prog_31_method_4_code, exceptionTable := #[], attributes := #[] }
def k8m1 : Method := { name := "names", desc := "(Lcom/example/bullyring/bullyring/core/mutex/RicartAgrawalaMessage;)Z", sig := { parameters := [(.object "com/example/bullyring/bullyring/core/mutex/RicartAgrawalaMessage")], returnType := some .boolean }, accessFlags := 1, code := some k8c1 }
/-- com/example/bullyring/bullyring/core/mutex/RicartAgrawalaMessage -/
def k8 : Class := { plain "com/example/bullyring/bullyring/core/mutex/RicartAgrawalaMessage" (some 7) with
  accessFlags := 49
  interfaces := #[]
  cf := some (fileOf pool8 37 #[.nestMembers #[22]] #[{ accessFlags := 1, nameIndex := 5, descriptorIndex := 52, attributes := #[] }, { accessFlags := 1, nameIndex := 80, descriptorIndex := 81, attributes := #[] }] 49 2 #[] #[{ accessFlags := 18, nameIndex := 8, descriptorIndex := 26, attributes := #[] }, { accessFlags := 18, nameIndex := 42, descriptorIndex := 43, attributes := #[] }, { accessFlags := 18, nameIndex := 46, descriptorIndex := 43, attributes := #[] }, { accessFlags := 18, nameIndex := 49, descriptorIndex := 43, attributes := #[] }])
  fields := #[{ name := "type", type := (.object "com/example/bullyring/bullyring/core/mutex/RicartAgrawalaMessage$Type"), accessFlags := 18, slot := 0, constantValue := 0 }, { name := "stamp", type := .long, accessFlags := 18, slot := 1, constantValue := 0 }, { name := "requestStamp", type := .long, accessFlags := 18, slot := 2, constantValue := 0 }, { name := "incarnation", type := .long, accessFlags := 18, slot := 3, constantValue := 0 }]
  methods := #[k8m0, k8m1]
  instanceTypes := #[(.object "com/example/bullyring/bullyring/core/mutex/RicartAgrawalaMessage$Type"), .long, .long, .long]
  staticTypes := #[]
  resolved := Array.replicate 119 none
  statics := none }

def pool9 : Array CpInfo := pool [(2, .class_ 4), (1, u "java/lang/CharSequence"), (42, .class_ 48), (0, u "java/lang/CharSequence$1CodePointIterator"), (10, .class_ 60), (0, u "java/lang/CharSequence$1CharIterator"), (5, .class_ 67), (0, u "java/lang/Object")] 63

/-- java/lang/CharSequence -/
def k9 : Class := { plain "java/lang/CharSequence" (some 0) with
  accessFlags := 1537
  interfaces := #[]
  cf := some (fileOf pool9 2 #[.nestMembers #[47, 59]] #[] 1537 66 #[] #[])
  fields := #[]
  methods := #[]
  instanceTypes := #[]
  staticTypes := #[]
  resolved := Array.replicate 131 none
  statics := none }

def pool10 : Array CpInfo := pool [(1, .class_ 2), (0, u "java/lang/constant/ConstantDesc"), (0, .class_ 4), (0, u "java/lang/Object")] 32

/-- java/lang/constant/ConstantDesc -/
def k10 : Class := { plain "java/lang/constant/ConstantDesc" (some 0) with
  accessFlags := 1537
  interfaces := #[]
  cf := some (fileOf pool10 1 #[] #[] 1537 3 #[] #[])
  fields := #[]
  methods := #[]
  instanceTypes := #[]
  staticTypes := #[]
  resolved := Array.replicate 37 none
  statics := none }

def pool11 : Array CpInfo := pool [(2, .class_ 4), (1, u "java/lang/Object"), (0, u "<init>"), (0, u "()V"), (3, .class_ 12), (1, u "java/lang/String"), (0, u "value"), (0, u "[B"), (2, u "coder"), (0, u "B"), (2, u "hash"), (0, u "I"), (2, u "hashIsZero"), (0, u "Z"), (13, u "COMPACT_STRINGS"), (534, .class_ 576), (0, u "java/lang/CharSequence"), (22, u "CASE_INSENSITIVE_ORDER"), (0, u "Ljava/util/Comparator;"), (500, u "serialPersistentFields"), (0, u "[Ljava/io/ObjectStreamField;"), (0, .class_ 1104), (0, u "java/lang/String$CaseInsensitiveComparator"), (1, .class_ 1107), (0, u "java/io/Serializable"), (0, .class_ 1109), (0, u "java/lang/Comparable"), (0, .class_ 1111), (0, u "java/lang/constant/Constable"), (0, .class_ 1113), (0, u "java/lang/constant/ConstantDesc"), (2, u "serialVersionUID"), (0, u "J"), (3, u "REPL"), (0, u "C"), (2, u "LATIN1"), (1, u "UTF16")] 323

def k11m0 : Method := { name := "<init>", desc := "()V", sig := { parameters := [], returnType := none }, accessFlags := 1, code := none }
/-- java/lang/String -/
def k11 : Class := { plain "java/lang/String" (some 0) with
  accessFlags := 49
  interfaces := #[4, 3, 9, 2, 10]
  cf := some (fileOf pool11 10 #[.nestMembers #[1103]] #[{ accessFlags := 1, nameIndex := 5, descriptorIndex := 6, attributes := #[] }] 49 2 #[1106, 1108, 575, 1110, 1112] #[{ accessFlags := 18, nameIndex := 13, descriptorIndex := 14, attributes := #[] }, { accessFlags := 18, nameIndex := 17, descriptorIndex := 18, attributes := #[] }, { accessFlags := 2, nameIndex := 21, descriptorIndex := 22, attributes := #[] }, { accessFlags := 2, nameIndex := 25, descriptorIndex := 26, attributes := #[] }, { accessFlags := 26, nameIndex := 1116, descriptorIndex := 1117, attributes := #[] }, { accessFlags := 24, nameIndex := 40, descriptorIndex := 26, attributes := #[] }, { accessFlags := 26, nameIndex := 1101, descriptorIndex := 1102, attributes := #[] }, { accessFlags := 26, nameIndex := 1121, descriptorIndex := 1122, attributes := #[] }, { accessFlags := 25, nameIndex := 599, descriptorIndex := 600, attributes := #[] }, { accessFlags := 24, nameIndex := 1125, descriptorIndex := 18, attributes := #[] }, { accessFlags := 24, nameIndex := 1127, descriptorIndex := 18, attributes := #[] }])
  fields := #[{ name := "value", type := (.array .byte), accessFlags := 18, slot := 0, constantValue := 0 }, { name := "coder", type := .byte, accessFlags := 18, slot := 1, constantValue := 0 }, { name := "hash", type := .int, accessFlags := 2, slot := 2, constantValue := 0 }, { name := "hashIsZero", type := .boolean, accessFlags := 2, slot := 3, constantValue := 0 }, { name := "serialVersionUID", type := .long, accessFlags := 26, slot := 0, constantValue := 0 }, { name := "COMPACT_STRINGS", type := .boolean, accessFlags := 24, slot := 1, constantValue := 0 }, { name := "serialPersistentFields", type := (.array (.object "java/io/ObjectStreamField")), accessFlags := 26, slot := 2, constantValue := 0 }, { name := "REPL", type := .char, accessFlags := 26, slot := 3, constantValue := 0 }, { name := "CASE_INSENSITIVE_ORDER", type := (.object "java/util/Comparator"), accessFlags := 25, slot := 4, constantValue := 0 }, { name := "LATIN1", type := .byte, accessFlags := 24, slot := 5, constantValue := 0 }, { name := "UTF16", type := .byte, accessFlags := 24, slot := 6, constantValue := 0 }]
  methods := #[k11m0]
  instanceTypes := #[(.array .byte), .byte, .int, .boolean]
  staticTypes := #[.long, .boolean, (.array (.object "java/io/ObjectStreamField")), .char, (.object "java/util/Comparator"), .byte, .byte]
  resolved := Array.replicate 1451 none
  statics := none }

def pool12 : Array CpInfo := pool [(2, .class_ 4), (1, u "java/lang/Object"), (0, u "<init>"), (0, u "()V"), (35, .class_ 44), (1, u "java/util/Objects"), (0, u "requireNonNull"), (48, u "(Ljava/lang/Object;Ljava/lang/String;)Ljava/lang/Object;")] 89

def k12m0 : Method := { name := "<init>", desc := "()V", sig := { parameters := [], returnType := none }, accessFlags := 2, code := none }
def k12c1 : Code := { maxStack := 3, maxLocals := 2, code := jdk_31_method_11_code, exceptionTable := #[], attributes := #[] }
def k12m1 : Method := { name := "requireNonNull", desc := "(Ljava/lang/Object;Ljava/lang/String;)Ljava/lang/Object;", sig := { parameters := [(.object "java/lang/Object"), (.object "java/lang/String")], returnType := some (.object "java/lang/Object") }, accessFlags := 9, code := some k12c1 }
/-- java/util/Objects -/
def k12 : Class := { plain "java/util/Objects" (some 0) with
  accessFlags := 49
  interfaces := #[]
  cf := some (fileOf pool12 42 #[] #[{ accessFlags := 2, nameIndex := 5, descriptorIndex := 6, attributes := #[] }, { accessFlags := 9, nameIndex := 45, descriptorIndex := 94, attributes := #[] }] 49 2 #[] #[])
  fields := #[]
  methods := #[k12m0, k12m1]
  instanceTypes := #[]
  staticTypes := #[]
  resolved := Array.replicate 184 none
  statics := none }

def pool13 : Array CpInfo := pool [(2, .class_ 4), (1, u "java/lang/Object"), (0, u "<init>"), (0, u "()V"), (0, .class_ 8), (0, u "com/example/bullyring/bullyring/core/clock/LamportClock"), (11, u "time"), (0, u "J"), (8, u "requireStamp"), (0, u "(J)V"), (3, u "MIN_STAMP")] 27

def k13m0 : Method := { name := "<init>", desc := "()V", sig := { parameters := [], returnType := none }, accessFlags := 1, code := none }
def k13c1 : Code := { maxStack := 4, maxLocals := 2, code := prog_2_method_2_code, exceptionTable := #[], attributes := #[] }
def k13m1 : Method := { name := "requireStamp", desc := "(J)V", sig := { parameters := [.long], returnType := none }, accessFlags := 9, code := some k13c1 }
/-- com/example/bullyring/bullyring/core/clock/LamportClock -/
def k13 : Class := { plain "com/example/bullyring/bullyring/core/clock/LamportClock" (some 0) with
  accessFlags := 33
  interfaces := #[]
  cf := some (fileOf pool13 7 #[] #[{ accessFlags := 1, nameIndex := 5, descriptorIndex := 6, attributes := #[] }, { accessFlags := 9, nameIndex := 30, descriptorIndex := 31, attributes := #[] }] 33 2 #[] #[{ accessFlags := 25, nameIndex := 35, descriptorIndex := 21, attributes := #[] }, { accessFlags := 2, nameIndex := 20, descriptorIndex := 21, attributes := #[] }])
  fields := #[{ name := "MIN_STAMP", type := .long, accessFlags := 25, slot := 0, constantValue := 0 }, { name := "time", type := .long, accessFlags := 2, slot := 0, constantValue := 0 }]
  methods := #[k13m0, k13m1]
  instanceTypes := #[.long]
  staticTypes := #[.long]
  resolved := Array.replicate 63 none
  statics := none }

def pool14 : Array CpInfo := pool [(1, u "java/lang/Cloneable"), (0, .class_ 1), (0, u "java/lang/Object"), (0, .class_ 3)] 3

/-- java/lang/Cloneable -/
def k14 : Class := { plain "java/lang/Cloneable" (some 0) with
  accessFlags := 1537
  interfaces := #[]
  cf := some (fileOf pool14 2 #[] #[] 1537 4 #[] #[])
  fields := #[]
  methods := #[]
  instanceTypes := #[]
  staticTypes := #[]
  resolved := Array.replicate 8 none
  statics := none }

/-- the primitive byte -/
def k15 : Class := { plain "byte" none with kind := .primitive 'B', accessFlags := 0x411 }
/-- [B -/
def k16 : Class := { plain "[B" (some 0) with kind := .array 15 .byte, interfaces := #[14, 4], accessFlags := 1041 }

/-- the primitive int -/
def k17 : Class := { plain "int" none with kind := .primitive 'I', accessFlags := 0x411 }
/-- [I -/
def k18 : Class := { plain "[I" (some 0) with kind := .array 17 .int, interfaces := #[14, 4], accessFlags := 1041 }

def heap : Heap := #[{ cls := 6, slots := #[.ref 1, .ref 2, .null], vm := .statics 6 },
  { cls := 6, slots := #[.null, .int 0, .int 0], vm := .none },
  { cls := 6, slots := #[.null, .int 1, .int 0], vm := .none }]
def classes : Array Class := #[k0, k1, k2, k3, k4, k5, k6, k7, k8, k9, k10, k11, k12, k13, k14, k15, k16, k17, k18]
def interned : List (Array UInt16 × Addr) := []
def slotsUsed : Nat := 9
def theMethod : MethodId := ⟨1, 2⟩
def args0 : Array Value := #[.long 5, .long 1, .long 7, .long 2, .long 3, .int 2]
def aboutOver (below : List Frame) : State where
  vm := { classes := classes, interned := interned.toArray }
  heap := heap
  slotsUsed := slotsUsed
  threads := #[{ frames := .invoking theMethod args0 :: below }]
def below0 : List Frame := [.native { method := ⟨0, 0⟩, args := #[] }]
def about1 : State := aboutOver below0
def p0 : Program := .bare "" "" ""
def e0 : Env := launch0.env 0 0 0
theorem w_frames : about1.frames = Frame.invoking theMethod args0 :: below0 := rfl
set_option maxRecDepth 65536 in
theorem w_args : argsFit about1.vm theMethod args0 = true := by decide +kernel
set_option maxRecDepth 65536 in
theorem w_heap : heapFits about1 = true := by decide +kernel
set_option maxRecDepth 65536 in
theorem w_runnable : about1.curStatus? = some .runnable := by decide +kernel
set_option maxRecDepth 65536 in
theorem w_alone : about1.alone = true := by decide +kernel
set_option maxRecDepth 65536 in
theorem w_named : about1.methodNamed? x = some theMethod := by decide +kernel
set_option maxRecDepth 65536 in
theorem w_hears : about1.hears theMethod below0 = true := by decide +kernel
set_option maxRecDepth 65536 in
theorem w_ripe : about1.ripe theMethod args0 below0 = true := by decide +kernel
theorem w_running : about1.status = .running := rfl
set_option maxRecDepth 65536 in
theorem w_room : about1.hasRoom e0.platform room_1 = true :=
  launch0.hasRoom_least _ room_1 (by decide +kernel) (by decide +kernel) (by decide +kernel) (by decide +kernel) (by decide +kernel) (by decide +kernel)
theorem allAtoms_all (ts : List Jvm.Cond) (a : Array Jvm.Value) (st : Jvm.State) : (allAtoms ts).before a st = ts.all (fun c => c.before a st) := by
  induction ts with
  | nil => rfl
  | cons c t ih =>
    show (Jvm.Cond.and c (allAtoms t)).before a st = _
    rw [Jvm.Cond.before_and, ih, List.all_cons]
def words1 : List Jvm.Cond := Jvm.Cond.code x code maxLocals ret :: tables_1
/-- a 'code' word, met by the world's own term for the bytes: nothing is compared byte by byte -/
theorem code_word {y : MethodName} {bytes : ByteArray} {mx : Nat} {rt : Option FieldType} {a : Array Value} {s : State} {m : MethodId} {meth : Method} {c : Code} (h1 : s.methodNamed? y = some m) (h2 : s.vm.method? m = some meth) (h3 : meth.code = some c) (h4 : c.code = bytes)
    (h5 : (c.maxLocals == mx && c.exceptionTable.isEmpty && decide (c.maxStack ≤ mostOperands) && decide (meth.sig.returnType = rt) && !meth.locks && decide (parseMethodDescriptor y.desc = some meth.sig)) = true) : (Jvm.Cond.code y bytes mx rt).before a s = true := by
  simp only [Bool.and_eq_true, beq_iff_eq, Bool.not_eq_true', decide_eq_true_eq] at h5
  obtain ⟨⟨⟨⟨⟨g1, g2⟩, g3⟩, g4⟩, g5⟩, g6⟩ := h5
  simp [Cond.before, Cond.holds, Cond.value, h1, h2, h3, h4, g1, g2, g3, g4, g5, g6]
def isCode : Jvm.Cond → Bool
  | .code _ _ _ _ => true
  | _ => false
theorem all_split {L : List Jvm.Cond} {P : Jvm.Cond → Bool} (h1 : L.all (fun c => isCode c || P c) = true) (h2 : ∀ c ∈ L.filter isCode, P c = true) : L.all P = true := by
  refine List.all_eq_true.mpr fun c hc => ?_
  have h := List.all_eq_true.mp h1 c hc
  rcases Bool.eq_false_or_eq_true (isCode c) with hi | hi
  · exact h2 c (List.mem_filter.mpr ⟨hc, hi⟩)
  · simpa [hi] using h
set_option maxRecDepth 65536 in
theorem w_c0 : (Jvm.Cond.code x code maxLocals ret).before args0 about1 = true := code_word (m := ⟨1, 2⟩) (meth := k1m2) (c := k1c2) (by decide +kernel) rfl rfl rfl (by decide +kernel)
set_option maxRecDepth 65536 in
theorem w_c1 : (Jvm.Cond.code ({ cls := "com/example/bullyring/bullyring/core/mutex/RicartAgrawalaMessageNamesPinLaw", name := "stampOf", desc := "(J)J" } : Jvm.MethodName) method_2_code (4 : Nat) (Option.some Jvm.ClassFile.FieldType.long)).before args0 about1 = true := code_word (m := ⟨1, 1⟩) (meth := k1m1) (c := k1c1) (by decide +kernel) rfl rfl rfl (by decide +kernel)
set_option maxRecDepth 65536 in
theorem w_c2 : (Jvm.Cond.code ({ cls := "com/example/bullyring/bullyring/core/mutex/RicartAgrawalaMessage", name := "<init>", desc := "(Lcom/example/bullyring/bullyring/core/mutex/RicartAgrawalaMessage$Type;JJJ)V" } : Jvm.MethodName) prog_31_method_1_code (8 : Nat) (Option.none : Option Jvm.ClassFile.FieldType)).before args0 about1 = true := code_word (m := ⟨8, 0⟩) (meth := k8m0) (c := k8c0) (by decide +kernel) rfl rfl rfl (by decide +kernel)
set_option maxRecDepth 65536 in
theorem w_c3 : (Jvm.Cond.code ({ cls := "java/lang/Record", name := "<init>", desc := "()V" } : Jvm.MethodName) jdk_30_method_1_code (1 : Nat) (Option.none : Option Jvm.ClassFile.FieldType)).before args0 about1 = true := code_word (m := ⟨7, 0⟩) (meth := k7m0) (c := k7c0) (by decide +kernel) rfl rfl rfl (by decide +kernel)
set_option maxRecDepth 65536 in
theorem w_c4 : (Jvm.Cond.code ({ cls := "java/lang/Object", name := "<init>", desc := "()V" } : Jvm.MethodName) object_method_1_code (1 : Nat) (Option.none : Option Jvm.ClassFile.FieldType)).before args0 about1 = true := code_word (m := ⟨0, 0⟩) (meth := k0m0) (c := k0c0) (by decide +kernel) rfl rfl rfl (by decide +kernel)
set_option maxRecDepth 65536 in
theorem w_c5 : (Jvm.Cond.code ({ cls := "java/util/Objects", name := "requireNonNull", desc := "(Ljava/lang/Object;Ljava/lang/String;)Ljava/lang/Object;" } : Jvm.MethodName) jdk_31_method_11_code (2 : Nat) (Option.some (Jvm.ClassFile.FieldType.object "java/lang/Object"))).before args0 about1 = true := code_word (m := ⟨12, 1⟩) (meth := k12m1) (c := k12c1) (by decide +kernel) rfl rfl rfl (by decide +kernel)
set_option maxRecDepth 65536 in
theorem w_c6 : (Jvm.Cond.code ({ cls := "com/example/bullyring/bullyring/core/clock/LamportClock", name := "requireStamp", desc := "(J)V" } : Jvm.MethodName) prog_2_method_2_code (2 : Nat) (Option.none : Option Jvm.ClassFile.FieldType)).before args0 about1 = true := code_word (m := ⟨13, 1⟩) (meth := k13m1) (c := k13c1) (by decide +kernel) rfl rfl rfl (by decide +kernel)
set_option maxRecDepth 65536 in
theorem w_c7 : (Jvm.Cond.code ({ cls := "com/example/bullyring/bullyring/core/mutex/RicartAgrawalaMessage", name := "names", desc := "(Lcom/example/bullyring/bullyring/core/mutex/RicartAgrawalaMessage;)Z" } : Jvm.MethodName) prog_31_method_4_code (2 : Nat) (Option.some Jvm.ClassFile.FieldType.boolean)).before args0 about1 = true := code_word (m := ⟨8, 1⟩) (meth := k8m1) (c := k8c1) (by decide +kernel) rfl rfl rfl (by decide +kernel)
def codes1 : List Jvm.Cond := [Jvm.Cond.code x code maxLocals ret, Jvm.Cond.code ({ cls := "com/example/bullyring/bullyring/core/mutex/RicartAgrawalaMessageNamesPinLaw", name := "stampOf", desc := "(J)J" } : Jvm.MethodName) method_2_code (4 : Nat) (Option.some Jvm.ClassFile.FieldType.long), Jvm.Cond.code ({ cls := "com/example/bullyring/bullyring/core/mutex/RicartAgrawalaMessage", name := "<init>", desc := "(Lcom/example/bullyring/bullyring/core/mutex/RicartAgrawalaMessage$Type;JJJ)V" } : Jvm.MethodName) prog_31_method_1_code (8 : Nat) (Option.none : Option Jvm.ClassFile.FieldType), Jvm.Cond.code ({ cls := "java/lang/Record", name := "<init>", desc := "()V" } : Jvm.MethodName) jdk_30_method_1_code (1 : Nat) (Option.none : Option Jvm.ClassFile.FieldType), Jvm.Cond.code ({ cls := "java/lang/Object", name := "<init>", desc := "()V" } : Jvm.MethodName) object_method_1_code (1 : Nat) (Option.none : Option Jvm.ClassFile.FieldType), Jvm.Cond.code ({ cls := "java/util/Objects", name := "requireNonNull", desc := "(Ljava/lang/Object;Ljava/lang/String;)Ljava/lang/Object;" } : Jvm.MethodName) jdk_31_method_11_code (2 : Nat) (Option.some (Jvm.ClassFile.FieldType.object "java/lang/Object")), Jvm.Cond.code ({ cls := "com/example/bullyring/bullyring/core/clock/LamportClock", name := "requireStamp", desc := "(J)V" } : Jvm.MethodName) prog_2_method_2_code (2 : Nat) (Option.none : Option Jvm.ClassFile.FieldType), Jvm.Cond.code ({ cls := "com/example/bullyring/bullyring/core/mutex/RicartAgrawalaMessage", name := "names", desc := "(Lcom/example/bullyring/bullyring/core/mutex/RicartAgrawalaMessage;)Z" } : Jvm.MethodName) prog_31_method_4_code (2 : Nat) (Option.some Jvm.ClassFile.FieldType.boolean)]
set_option maxRecDepth 65536 in
theorem codes_eq : words1.filter isCode = codes1 := rfl
theorem w_codes : ∀ c ∈ words1.filter isCode, c.before args0 about1 = true := by
  rw [codes_eq]
  intro c hc
  simp only [codes1, List.mem_cons, List.not_mem_nil, or_false] at hc
  rcases hc with rfl | rfl | rfl | rfl | rfl | rfl | rfl | rfl
  · exact w_c0
  · exact w_c1
  · exact w_c2
  · exact w_c3
  · exact w_c4
  · exact w_c5
  · exact w_c6
  · exact w_c7
set_option maxRecDepth 65536 in
theorem w_t1 : (words1.take 24).all (fun c => isCode c || c.before args0 about1) = true := by decide +kernel
set_option maxRecDepth 65536 in
theorem w_t2 : ((words1.drop 24).take 24).all (fun c => isCode c || c.before args0 about1) = true := by decide +kernel
set_option maxRecDepth 65536 in
theorem w_t3 : ((words1.drop 24).drop 24).all (fun c => isCode c || c.before args0 about1) = true := by decide +kernel
theorem w_tables : (allAtoms (Jvm.Cond.code x code maxLocals ret :: tables_1)).before args0 about1 = true := by
  rw [allAtoms_all]
  show words1.all (fun c => c.before args0 about1) = true
  refine all_split ?_ w_codes
  rw [← List.take_append_drop 24 words1, List.all_append, w_t1, ← List.take_append_drop 24 (words1.drop 24), List.all_append, w_t2, w_t3]
  rfl
set_option maxRecDepth 65536 in
theorem w_case : (Jvm.Cond.and given_1 narrow_1).before args0 about1 = true := by decide +kernel
theorem w_applies : (headSpec (Jvm.Cond.code x code maxLocals ret :: tables_1) room_1).applies x e0.platform about1 = true :=
  (Spec.applies_iff w_frames).mpr ⟨w_running, w_runnable, w_alone, w_named, w_hears, w_ripe, w_room, w_tables⟩
theorem atStart : AtStart classFile x code maxLocals ret World_1 tables_1 room_1 Calls_1 rest_1 Pre_1 launch0 p0 e0 about1 theMethod args0 below0 :=
  ⟨lists_1, trivial, launch0.admits_env _ _ _, launch0.least_env, fairChoices_fair.cas, fairChoices_fair.clock, w_frames, w_args, w_heap, w_applies, trivial, trivial, w_case⟩
end start1
theorem witness_1 : WitnessClaimed_1 := ⟨start1.p0, start1.e0, start1.about1, start1.theMethod, start1.args0, start1.below0, start1.atStart⟩
end Jvm.Pilot.@@N@@
