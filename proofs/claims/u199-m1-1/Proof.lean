import JvmDerived
import JvmDerived.Pilot.@@N@@Statement
import JvmDerived.Pilot.@@N@@Code
set_option linter.unusedVariables false
set_option linter.unusedSimpArgs false
namespace Jvm.Pilot.@@N@@
open Jvm Jvm.ClassFile Sem Op Lib Jvm.Free Jvm.Stand Jvm.LawKit Jvm.RoadKit Bundle Jvm.Pilot.@@N@@.Jvm.D
section OwnKit
variable {p : Program} {l : Launch} {e : Env} {R : Room} {s : State} {m : MethodId} {args : Array Value} {below : List Frame} {meth : Method} {c : Code} {T : State} {locs : List Loc} {cells slots : Nat} {Z : State} {a0 : Array Value} {h : Heap} {W : State → Prop} {pc q : Nat} {Ls : Array Slot} {St : List Value}
/-- the run comes from S to an end of which W holds -/
def Go (p : Program) (e : Env) (below : List Frame) (W : State → Prop) (S : State) : Prop := ∃ U, Steps p.tables e below S U ∧ W U
theorem Go.on {S S' : State} (k : ∀ t, Steps p.tables e below S' t → Steps p.tables e below S t) (h : Go p e below W S') : Go p e below W S := by
  obtain ⟨U, h1, h2⟩ := h; exact ⟨U, k U h1, h2⟩
/-- what a body must leave -/
def Wd (s : State) (below : List Frame) (Q : Option Value → Heap → List Loc → Prop) (k n : Nat) (U : State) : Prop := U.status = .running ∧ ∃ v, Ended U below (.returned v) ∧ ∃ L, Q v U.heap L ∧ FrameEnd s (.returned v) U L k n
/-- a body's contract: from the heap h0 and the arguments as' it returns as Q says -/
def Con (l : Launch) (Z : State) (h0 : Heap) (y : MethodName) (bytes : ByteArray) (ml : Nat) (ret : Option FieldType) (rm : Room) (as' : Array Value) (Q : Option Value → Heap → List Loc → Prop) : Prop :=
  ∀ ws : List Jvm.Cond, MetFree l y (head1 (Jvm.Cond.code y bytes ml ret :: ws) rm) (fun a U => a = as' ∧ Z.Warmed39 U.vm ∧ U.heap = h0) (fun _ _ _ _ _ => True) (fun _ U o U' => ∃ v L, o = .returned v ∧ Q v U'.heap L ∧ FrameEnd U o U' L rm.cells rm.slots)
/-- it returns V and touches nothing -/
def Pur (V : Option Value) (h0 : Heap) (v : Option Value) (h : Heap) (L : List Loc) : Prop := v = V ∧ L = [] ∧ h = h0
theorem con_of {h0 : Heap} {y : MethodName} {bytes : ByteArray} {ml : Nat} {ret : Option FieldType} {rm : Room} {as' : Array Value} {Q : Option Value → Heap → List Loc → Prop} (hpl : plainFor y = true) {Ls : Array Slot}
    (hef : ∀ m : MethodId, entryFrame m as' ml = mkF m 0 Ls [])
    (body : ∀ (p : Program) (e : Env) (s : State) (m : MethodId) (below : List Frame) (meth : Method) (c : Code) (s₁ : State), p.tables.exec = Jvm.exec → Z.Warmed39 s.vm → c.code = bytes → c.maxLocals = ml → meth.sig.returnType = ret → meth.locks = false → meth.name = y.name → s.vm.findClass y.cls = some m.cls →
      Stand p l e rm s m as' below meth c s₁ [] 0 0 → s₁.heap = h0 → Go p e below (Wd s below Q rm.cells rm.slots) (s₁.setTop (mkF m 0 Ls []))) : Con l Z h0 y bytes ml ret rm as' Q := by
  intro ws
  refine MetFree.of_bodySF hpl hisR ?_
  intro p e s m args below meth c s₁ Bd hml0 hP hK
  obtain ⟨rfl, hZ, hh⟩ := hP
  obtain ⟨U, h1, h2, v, h3, L, h4, h5⟩ := body p e s m below meth c s₁ Bd.exec hZ Bd.bytes hml0 Bd.returns Bd.notSynchronized (name_of_methodNamed Bd.named Bd.method).1 (findClass_of_methodNamed Bd.named) (Stand.of_body Bd) (by rw [← hh, Bd.state]; rfl)
  rw [← hef] at h1
  exact ⟨U, _, h1, h2, h3, v, L, rfl, h4, h5⟩
theorem g_leave (X : Stand p l e R s m args below meth c T locs cells slots) {v : Option Value} (hv : meth.sig.returnType = none → v = none) (hlk : meth.locks = false) {S : State} {Q : Option Value → Heap → List Loc → Prop} {k n : Nat}
    (st : ∀ fs, (∀ (f : JFrame) (acts : List Action), f.method = m → f.locked = none → f.entered = [] → (doReturn e (T.setTop f) acts v).1 = T.setFrames fs) → Steps p.tables e below S (T.setFrames fs))
    (hQ : Q v T.heap locs) (hk : cells ≤ k) (hn : slots ≤ n) : Go p e below (Wd s below Q k n) S := by
  obtain ⟨fs, hr, hrun, hended, hW, hsame⟩ := X.leave (v := v) hv hlk
  exact ⟨_, st fs hr, hrun, v, hended, locs, hQ, ⟨_, rfl⟩, hW, hsame.mono hk hn⟩
section Leaves
variable {Q : Option Value → Heap → List Loc → Prop} {k n : Nat}
theorem g_retZ (X : Stand p l e R s m args below meth c T locs cells slots) (hx : p.tables.exec = Jvm.exec) {t : FieldType} {z : Int32} (hret : meth.sig.returnType = some t) (hlk : meth.locks = false) (hd : decode c.code pc = .ok (.ireturn, 1)) (ht : t = .int ∨ t = .boolean ∨ t = .byte ∨ t = .char ∨ t = .short) (hn' : narrow t (.int z) = .int z)
    (hQ : Q (some (.int z)) T.heap locs) (hk : cells ≤ k) (hn : slots ≤ n) : Go p e below (Wd s below Q k n) (T.setTop (mkF m pc Ls (.int z :: St))) :=
  g_leave X (fun h => by rw [hret] at h; cases h) hlk (fun fs hr => retOut X hx hret hn' (Or.inl ⟨rfl, ht, z, rfl⟩) hd hr) hQ hk hn
theorem g_retI (X : Stand p l e R s m args below meth c T locs cells slots) (hx : p.tables.exec = Jvm.exec) {z : Int32} (hret : meth.sig.returnType = some .int) (hlk : meth.locks = false) (hd : decode c.code pc = .ok (.ireturn, 1))
    (hQ : Q (some (.int z)) T.heap locs) (hk : cells ≤ k) (hn : slots ≤ n) : Go p e below (Wd s below Q k n) (T.setTop (mkF m pc Ls (.int z :: St))) :=
  g_retZ X hx hret hlk hd (Or.inl rfl) rfl hQ hk hn
theorem g_retB (X : Stand p l e R s m args below meth c T locs cells slots) (hx : p.tables.exec = Jvm.exec) {z : Int32} (hret : meth.sig.returnType = some .boolean) (hlk : meth.locks = false) (hd : decode c.code pc = .ok (.ireturn, 1)) (hz : z = 0 ∨ z = 1)
    (hQ : Q (some (.int z)) T.heap locs) (hk : cells ≤ k) (hn : slots ≤ n) : Go p e below (Wd s below Q k n) (T.setTop (mkF m pc Ls (.int z :: St))) :=
  g_retZ X hx hret hlk hd (Or.inr (Or.inl rfl)) (by rcases hz with rfl | rfl <;> rfl) hQ hk hn
theorem g_retJ (X : Stand p l e R s m args below meth c T locs cells slots) (hx : p.tables.exec = Jvm.exec) {z : Int64} (hret : meth.sig.returnType = some .long) (hlk : meth.locks = false) (hd : decode c.code pc = .ok (.lreturn, 1))
    (hQ : Q (some (.long z)) T.heap locs) (hk : cells ≤ k) (hn : slots ≤ n) : Go p e below (Wd s below Q k n) (T.setTop (mkF m pc Ls (.long z :: St))) :=
  g_leave X (fun h => by rw [hret] at h; cases h) hlk (fun fs hr => retOut X hx hret rfl (Or.inr (Or.inl ⟨rfl, rfl, z, rfl⟩)) hd hr) hQ hk hn
theorem g_retA (X : Stand p l e R s m args below meth c T locs cells slots) (hx : p.tables.exec = Jvm.exec) {t : FieldType} {w : Value} (hret : meth.sig.returnType = some t) (hlk : meth.locks = false) (hd : decode c.code pc = .ok (.areturn, 1)) (ht : t.isReference = true) (hw : w.isRef = true) (hn' : narrow t w = w)
    (hQ : Q (some w) T.heap locs) (hk : cells ≤ k) (hn : slots ≤ n) : Go p e below (Wd s below Q k n) (T.setTop (mkF m pc Ls (w :: St))) :=
  g_leave X (fun h => by rw [hret] at h; cases h) hlk (fun fs hr => retOut X hx hret hn' (Or.inr (Or.inr (Or.inr (Or.inr ⟨rfl, ht, hw⟩)))) hd hr) hQ hk hn
theorem g_retV (X : Stand p l e R s m args below meth c T locs cells slots) (hx : p.tables.exec = Jvm.exec) (hret : meth.sig.returnType = none) (hlk : meth.locks = false) (hd : decode c.code pc = .ok (.return_, 1))
    (hQ : Q none T.heap locs) (hk : cells ≤ k) (hn : slots ≤ n) : Go p e below (Wd s below Q k n) (T.setTop (mkF m pc Ls [])) :=
  g_leave X (fun _ => rfl) hlk (fun fs hr => X.returnOut hx hret hd hr) hQ hk hn
end Leaves
section Plain
theorem g_iload (X : Stand p l e R s m args below meth c T locs cells slots) (hx : p.tables.exec = Jvm.exec) {k : Nat} {v : Int32} (hd : decode c.code pc = .ok (.iload k, 2)) (hl : Ls[k]? = some (.val (.int v))) (hq : pc + 2 = q) (G : Go p e below W (T.setTop (mkF m q Ls (.int v :: St)))) : Go p e below W (T.setTop (mkF m pc Ls St)) := by
  subst hq; exact G.on fun t k' => XS.iload X.here hx rfl hd hl k'
theorem g_lload (X : Stand p l e R s m args below meth c T locs cells slots) (hx : p.tables.exec = Jvm.exec) {k : Nat} {v : Int64} (hd : decode c.code pc = .ok (.lload k, 2)) (hl : Ls[k]? = some (.val (.long v))) (hq : pc + 2 = q) (G : Go p e below W (T.setTop (mkF m q Ls (.long v :: St)))) : Go p e below W (T.setTop (mkF m pc Ls St)) := by
  subst hq; exact G.on fun t k' => XS.lload X.here hx rfl hd hl k'
theorem g_aload (X : Stand p l e R s m args below meth c T locs cells slots) (hx : p.tables.exec = Jvm.exec) {k : Nat} {v : Value} (hd : decode c.code pc = .ok (.aload k, 2)) (hl : Ls[k]? = some (.val v)) (hv : v.isRef = true) (hq : pc + 2 = q) (G : Go p e below W (T.setTop (mkF m q Ls (v :: St)))) : Go p e below W (T.setTop (mkF m pc Ls St)) := by
  subst hq; exact G.on fun t k' => XS.aload X.here hx rfl hd hl hv k'
theorem g_istore (X : Stand p l e R s m args below meth c T locs cells slots) (hx : p.tables.exec = Jvm.exec) {k : Nat} {x : Int32} {L' : Array Slot} (hd : decode c.code pc = .ok (.istore k, 2)) (hl : storeLocals Ls k (.int x) = some L') (hq : pc + 2 = q) (G : Go p e below W (T.setTop (mkF m q L' St))) : Go p e below W (T.setTop (mkF m pc Ls (.int x :: St))) := by
  subst hq; exact G.on fun t k' => XS.istore X.here hx rfl hd rfl hl k'
theorem g_lstore (X : Stand p l e R s m args below meth c T locs cells slots) (hx : p.tables.exec = Jvm.exec) {k : Nat} {x : Int64} {L' : Array Slot} (hd : decode c.code pc = .ok (.lstore k, 2)) (hl : storeLocals Ls k (.long x) = some L') (hq : pc + 2 = q) (G : Go p e below W (T.setTop (mkF m q L' St))) : Go p e below W (T.setTop (mkF m pc Ls (.long x :: St))) := by
  subst hq; exact G.on fun t k' => XS.lstore X.here hx rfl hd rfl hl k'
theorem g_astore (X : Stand p l e R s m args below meth c T locs cells slots) (hx : p.tables.exec = Jvm.exec) {k : Nat} {x : Value} {L' : Array Slot} (hd : decode c.code pc = .ok (.astore k, 2)) (hv : x.isRef = true) (hl : storeLocals Ls k x = some L') (hq : pc + 2 = q) (G : Go p e below W (T.setTop (mkF m q L' St))) : Go p e below W (T.setTop (mkF m pc Ls (x :: St))) := by
  subst hq; exact G.on fun t k' => XS.astore X.here hx rfl hd rfl hv hl k'
theorem g_iloadN (X : Stand p l e R s m args below meth c T locs cells slots) (hx : p.tables.exec = Jvm.exec) {k : Fin 4} {v : Int32} (hd : decode c.code pc = .ok (.iload_n k, 1)) (hl : Ls[k.val]? = some (.val (.int v))) (hq : pc + 1 = q) (G : Go p e below W (T.setTop (mkF m q Ls (.int v :: St)))) : Go p e below W (T.setTop (mkF m pc Ls St)) := by
  subst hq; exact G.on fun t k' => XS.iloadN X.here hx rfl hd hl k'
theorem g_lloadN (X : Stand p l e R s m args below meth c T locs cells slots) (hx : p.tables.exec = Jvm.exec) {k : Fin 4} {v : Int64} (hd : decode c.code pc = .ok (.lload_n k, 1)) (hl : Ls[k.val]? = some (.val (.long v))) (hq : pc + 1 = q) (G : Go p e below W (T.setTop (mkF m q Ls (.long v :: St)))) : Go p e below W (T.setTop (mkF m pc Ls St)) := by
  subst hq; exact G.on fun t k' => XS.lloadN X.here hx rfl hd hl k'
theorem g_aloadN (X : Stand p l e R s m args below meth c T locs cells slots) (hx : p.tables.exec = Jvm.exec) {k : Fin 4} {v : Value} (hd : decode c.code pc = .ok (.aload_n k, 1)) (hl : Ls[k.val]? = some (.val v)) (hv : v.isRef = true) (hq : pc + 1 = q) (G : Go p e below W (T.setTop (mkF m q Ls (v :: St)))) : Go p e below W (T.setTop (mkF m pc Ls St)) := by
  subst hq; exact G.on fun t k' => XS.aloadN X.here hx rfl hd hl hv k'
theorem g_istoreN (X : Stand p l e R s m args below meth c T locs cells slots) (hx : p.tables.exec = Jvm.exec) {k : Fin 4} {x : Int32} {L' : Array Slot} (hd : decode c.code pc = .ok (.istore_n k, 1)) (hl : storeLocals Ls k.val (.int x) = some L') (hq : pc + 1 = q) (G : Go p e below W (T.setTop (mkF m q L' St))) : Go p e below W (T.setTop (mkF m pc Ls (.int x :: St))) := by
  subst hq; exact G.on fun t k' => XS.istoreN X.here hx rfl hd rfl hl k'
theorem g_lstoreN (X : Stand p l e R s m args below meth c T locs cells slots) (hx : p.tables.exec = Jvm.exec) {k : Fin 4} {x : Int64} {L' : Array Slot} (hd : decode c.code pc = .ok (.lstore_n k, 1)) (hl : storeLocals Ls k.val (.long x) = some L') (hq : pc + 1 = q) (G : Go p e below W (T.setTop (mkF m q L' St))) : Go p e below W (T.setTop (mkF m pc Ls (.long x :: St))) := by
  subst hq; exact G.on fun t k' => XS.lstoreN X.here hx rfl hd rfl hl k'
theorem g_astoreN (X : Stand p l e R s m args below meth c T locs cells slots) (hx : p.tables.exec = Jvm.exec) {k : Fin 4} {x : Value} {L' : Array Slot} (hd : decode c.code pc = .ok (.astore_n k, 1)) (hv : x.isRef = true) (hl : storeLocals Ls k.val x = some L') (hq : pc + 1 = q) (G : Go p e below W (T.setTop (mkF m q L' St))) : Go p e below W (T.setTop (mkF m pc Ls (x :: St))) := by
  subst hq; exact G.on fun t k' => XS.astoreN X.here hx rfl hd rfl hv hl k'
theorem g_iconst (X : Stand p l e R s m args below meth c T locs cells slots) (hx : p.tables.exec = Jvm.exec) {i : Int} {n : Int32} (hd : decode c.code pc = .ok (.iconst i, 1)) (hn : Int32.ofInt i = n) (hq : pc + 1 = q) (G : Go p e below W (T.setTop (mkF m q Ls (.int n :: St)))) : Go p e below W (T.setTop (mkF m pc Ls St)) := by
  subst hq; subst hn; exact G.on fun t k' => XS.iconst X.here hx rfl hd k'
theorem g_bipush (X : Stand p l e R s m args below meth c T locs cells slots) (hx : p.tables.exec = Jvm.exec) {i : Int} {n : Int32} (hd : decode c.code pc = .ok (.bipush i, 2)) (hn : (Int8.ofInt i).toInt32 = n) (hq : pc + 2 = q) (G : Go p e below W (T.setTop (mkF m q Ls (.int n :: St)))) : Go p e below W (T.setTop (mkF m pc Ls St)) := by
  subst hq; subst hn; exact G.on fun t k' => XS.bipush X.here hx rfl hd k'
theorem g_sipush (X : Stand p l e R s m args below meth c T locs cells slots) (hx : p.tables.exec = Jvm.exec) {i : Int} {n : Int32} (hd : decode c.code pc = .ok (.sipush i, 3)) (hn : (Int16.ofInt i).toInt32 = n) (hq : pc + 3 = q) (G : Go p e below W (T.setTop (mkF m q Ls (.int n :: St)))) : Go p e below W (T.setTop (mkF m pc Ls St)) := by
  subst hq; subst hn; exact G.on fun t k' => XS.sipush X.here hx rfl hd k'
theorem g_lconst (X : Stand p l e R s m args below meth c T locs cells slots) (hx : p.tables.exec = Jvm.exec) {i : Fin 2} {n : Int64} (hd : decode c.code pc = .ok (.lconst i, 1)) (hn : Int64.ofNat i = n) (hq : pc + 1 = q) (G : Go p e below W (T.setTop (mkF m q Ls (.long n :: St)))) : Go p e below W (T.setTop (mkF m pc Ls St)) := by
  subst hq; subst hn; exact G.on fun t k' => XS.lconst X.here hx rfl hd k'
theorem g_aconst_null (X : Stand p l e R s m args below meth c T locs cells slots) (hx : p.tables.exec = Jvm.exec)  (hd : decode c.code pc = .ok (.aconst_null, 1)) (hq : pc + 1 = q) (G : Go p e below W (T.setTop (mkF m q Ls (.null :: St)))) : Go p e below W (T.setTop (mkF m pc Ls St)) := by
  subst hq; exact G.on fun t k' => XS.aconstNull X.here hx rfl hd k'
theorem g_iadd (X : Stand p l e R s m args below meth c T locs cells slots) (hx : p.tables.exec = Jvm.exec) {x y z : Int32} (hd : decode c.code pc = .ok (.iadd, 1)) (hz : x + y = z) (hq : pc + 1 = q) (G : Go p e below W (T.setTop (mkF m q Ls (.int z :: St)))) : Go p e below W (T.setTop (mkF m pc Ls (.int y :: .int x :: St))) := by
  subst hq; subst hz; exact G.on fun t k' => XS.iadd X.here hx rfl hd rfl k'
theorem g_isub (X : Stand p l e R s m args below meth c T locs cells slots) (hx : p.tables.exec = Jvm.exec) {x y z : Int32} (hd : decode c.code pc = .ok (.isub, 1)) (hz : x - y = z) (hq : pc + 1 = q) (G : Go p e below W (T.setTop (mkF m q Ls (.int z :: St)))) : Go p e below W (T.setTop (mkF m pc Ls (.int y :: .int x :: St))) := by
  subst hq; subst hz; exact G.on fun t k' => XS.isub X.here hx rfl hd rfl k'
theorem g_imul (X : Stand p l e R s m args below meth c T locs cells slots) (hx : p.tables.exec = Jvm.exec) {x y z : Int32} (hd : decode c.code pc = .ok (.imul, 1)) (hz : x * y = z) (hq : pc + 1 = q) (G : Go p e below W (T.setTop (mkF m q Ls (.int z :: St)))) : Go p e below W (T.setTop (mkF m pc Ls (.int y :: .int x :: St))) := by
  subst hq; subst hz; exact G.on fun t k' => XS.imul X.here hx rfl hd rfl k'
theorem g_iand (X : Stand p l e R s m args below meth c T locs cells slots) (hx : p.tables.exec = Jvm.exec) {x y z : Int32} (hd : decode c.code pc = .ok (.iand, 1)) (hz : x &&& y = z) (hq : pc + 1 = q) (G : Go p e below W (T.setTop (mkF m q Ls (.int z :: St)))) : Go p e below W (T.setTop (mkF m pc Ls (.int y :: .int x :: St))) := by
  subst hq; subst hz; exact G.on fun t k' => XS.iand X.here hx rfl hd rfl k'
theorem g_ior (X : Stand p l e R s m args below meth c T locs cells slots) (hx : p.tables.exec = Jvm.exec) {x y z : Int32} (hd : decode c.code pc = .ok (.ior, 1)) (hz : x ||| y = z) (hq : pc + 1 = q) (G : Go p e below W (T.setTop (mkF m q Ls (.int z :: St)))) : Go p e below W (T.setTop (mkF m pc Ls (.int y :: .int x :: St))) := by
  subst hq; subst hz; exact G.on fun t k' => XS.ior X.here hx rfl hd rfl k'
theorem g_ixor (X : Stand p l e R s m args below meth c T locs cells slots) (hx : p.tables.exec = Jvm.exec) {x y z : Int32} (hd : decode c.code pc = .ok (.ixor, 1)) (hz : x ^^^ y = z) (hq : pc + 1 = q) (G : Go p e below W (T.setTop (mkF m q Ls (.int z :: St)))) : Go p e below W (T.setTop (mkF m pc Ls (.int y :: .int x :: St))) := by
  subst hq; subst hz; exact G.on fun t k' => XS.ixor X.here hx rfl hd rfl k'
theorem g_ishl (X : Stand p l e R s m args below meth c T locs cells slots) (hx : p.tables.exec = Jvm.exec) {x y z : Int32} (hd : decode c.code pc = .ok (.ishl, 1)) (hz : x <<< (y &&& 31) = z) (hq : pc + 1 = q) (G : Go p e below W (T.setTop (mkF m q Ls (.int z :: St)))) : Go p e below W (T.setTop (mkF m pc Ls (.int y :: .int x :: St))) := by
  subst hq; subst hz; exact G.on fun t k' => XS.ishl X.here hx rfl hd rfl k'
theorem g_ishr (X : Stand p l e R s m args below meth c T locs cells slots) (hx : p.tables.exec = Jvm.exec) {x y z : Int32} (hd : decode c.code pc = .ok (.ishr, 1)) (hz : x >>> (y &&& 31) = z) (hq : pc + 1 = q) (G : Go p e below W (T.setTop (mkF m q Ls (.int z :: St)))) : Go p e below W (T.setTop (mkF m pc Ls (.int y :: .int x :: St))) := by
  subst hq; subst hz; exact G.on fun t k' => XS.ishr X.here hx rfl hd rfl k'
theorem g_iushr (X : Stand p l e R s m args below meth c T locs cells slots) (hx : p.tables.exec = Jvm.exec) {x y z : Int32} (hd : decode c.code pc = .ok (.iushr, 1)) (hz : (x.toUInt32 >>> (y &&& 31).toUInt32).toInt32 = z) (hq : pc + 1 = q) (G : Go p e below W (T.setTop (mkF m q Ls (.int z :: St)))) : Go p e below W (T.setTop (mkF m pc Ls (.int y :: .int x :: St))) := by
  subst hq; subst hz; exact G.on fun t k' => XS.iushr X.here hx rfl hd rfl k'
theorem g_irem (X : Stand p l e R s m args below meth c T locs cells slots) (hx : p.tables.exec = Jvm.exec) {x y z : Int32} (hd : decode c.code pc = .ok (.irem, 1)) (hy : y ≠ 0) (hz : x % y = z) (hq : pc + 1 = q) (G : Go p e below W (T.setTop (mkF m q Ls (.int z :: St)))) : Go p e below W (T.setTop (mkF m pc Ls (.int y :: .int x :: St))) := by
  subst hq; subst hz; exact G.on fun t k' => iremM X hx rfl hd rfl hy k'
theorem g_ladd (X : Stand p l e R s m args below meth c T locs cells slots) (hx : p.tables.exec = Jvm.exec) {x y z : Int64} (hd : decode c.code pc = .ok (.ladd, 1)) (hz : x + y = z) (hq : pc + 1 = q) (G : Go p e below W (T.setTop (mkF m q Ls (.long z :: St)))) : Go p e below W (T.setTop (mkF m pc Ls (.long y :: .long x :: St))) := by
  subst hq; subst hz; exact G.on fun t k' => XS.ladd X.here hx rfl hd rfl k'
theorem g_lsub (X : Stand p l e R s m args below meth c T locs cells slots) (hx : p.tables.exec = Jvm.exec) {x y z : Int64} (hd : decode c.code pc = .ok (.lsub, 1)) (hz : x - y = z) (hq : pc + 1 = q) (G : Go p e below W (T.setTop (mkF m q Ls (.long z :: St)))) : Go p e below W (T.setTop (mkF m pc Ls (.long y :: .long x :: St))) := by
  subst hq; subst hz; exact G.on fun t k' => XS.lsub X.here hx rfl hd rfl k'
theorem g_land (X : Stand p l e R s m args below meth c T locs cells slots) (hx : p.tables.exec = Jvm.exec) {x y z : Int64} (hd : decode c.code pc = .ok (.land, 1)) (hz : x &&& y = z) (hq : pc + 1 = q) (G : Go p e below W (T.setTop (mkF m q Ls (.long z :: St)))) : Go p e below W (T.setTop (mkF m pc Ls (.long y :: .long x :: St))) := by
  subst hq; subst hz; exact G.on fun t k' => XS.land X.here hx rfl hd rfl k'
theorem g_lor (X : Stand p l e R s m args below meth c T locs cells slots) (hx : p.tables.exec = Jvm.exec) {x y z : Int64} (hd : decode c.code pc = .ok (.lor, 1)) (hz : x ||| y = z) (hq : pc + 1 = q) (G : Go p e below W (T.setTop (mkF m q Ls (.long z :: St)))) : Go p e below W (T.setTop (mkF m pc Ls (.long y :: .long x :: St))) := by
  subst hq; subst hz; exact G.on fun t k' => XS.lor X.here hx rfl hd rfl k'
theorem g_lxor (X : Stand p l e R s m args below meth c T locs cells slots) (hx : p.tables.exec = Jvm.exec) {x y z : Int64} (hd : decode c.code pc = .ok (.lxor, 1)) (hz : x ^^^ y = z) (hq : pc + 1 = q) (G : Go p e below W (T.setTop (mkF m q Ls (.long z :: St)))) : Go p e below W (T.setTop (mkF m pc Ls (.long y :: .long x :: St))) := by
  subst hq; subst hz; exact G.on fun t k' => XS.lxor X.here hx rfl hd rfl k'
theorem g_lshl (X : Stand p l e R s m args below meth c T locs cells slots) (hx : p.tables.exec = Jvm.exec) {x z : Int64} {y : Int32} (hd : decode c.code pc = .ok (.lshl, 1)) (hz : x <<< (y &&& 0x3f).toInt64 = z) (hq : pc + 1 = q) (G : Go p e below W (T.setTop (mkF m q Ls (.long z :: St)))) : Go p e below W (T.setTop (mkF m pc Ls (.int y :: .long x :: St))) := by
  subst hq; subst hz; exact G.on fun t k' => XS.lshl X.here hx rfl hd rfl k'
theorem g_lshr (X : Stand p l e R s m args below meth c T locs cells slots) (hx : p.tables.exec = Jvm.exec) {x z : Int64} {y : Int32} (hd : decode c.code pc = .ok (.lshr, 1)) (hz : x >>> (y &&& 0x3f).toInt64 = z) (hq : pc + 1 = q) (G : Go p e below W (T.setTop (mkF m q Ls (.long z :: St)))) : Go p e below W (T.setTop (mkF m pc Ls (.int y :: .long x :: St))) := by
  subst hq; subst hz; exact G.on fun t k' => XS.lshr X.here hx rfl hd rfl k'
theorem g_lushr (X : Stand p l e R s m args below meth c T locs cells slots) (hx : p.tables.exec = Jvm.exec) {x z : Int64} {y : Int32} (hd : decode c.code pc = .ok (.lushr, 1)) (hz : (x.toUInt64 >>> (y &&& 0x3f).toInt64.toUInt64).toInt64 = z) (hq : pc + 1 = q) (G : Go p e below W (T.setTop (mkF m q Ls (.long z :: St)))) : Go p e below W (T.setTop (mkF m pc Ls (.int y :: .long x :: St))) := by
  subst hq; subst hz; exact G.on fun t k' => XS.lushr X.here hx rfl hd rfl k'
theorem g_lcmp (X : Stand p l e R s m args below meth c T locs cells slots) (hx : p.tables.exec = Jvm.exec) {x y : Int64} {z : Int32} (hd : decode c.code pc = .ok (.lcmp, 1)) (hz : lcmpW x y = z) (hq : pc + 1 = q) (G : Go p e below W (T.setTop (mkF m q Ls (.int z :: St)))) : Go p e below W (T.setTop (mkF m pc Ls (.long y :: .long x :: St))) := by
  subst hq; subst hz; exact G.on fun t k' => XS.lcmp X.here hx rfl hd rfl k'
theorem g_i2l (X : Stand p l e R s m args below meth c T locs cells slots) (hx : p.tables.exec = Jvm.exec) {x : Int32} {z : Int64} (hd : decode c.code pc = .ok (.i2l, 1)) (hz : x.toInt64 = z) (hq : pc + 1 = q) (G : Go p e below W (T.setTop (mkF m q Ls (.long z :: St)))) : Go p e below W (T.setTop (mkF m pc Ls (.int x :: St))) := by
  subst hq; subst hz; exact G.on fun t k' => XS.i2l X.here hx rfl hd rfl k'
theorem g_l2i (X : Stand p l e R s m args below meth c T locs cells slots) (hx : p.tables.exec = Jvm.exec) {x : Int64} {z : Int32} (hd : decode c.code pc = .ok (.l2i, 1)) (hz : x.toInt32 = z) (hq : pc + 1 = q) (G : Go p e below W (T.setTop (mkF m q Ls (.int z :: St)))) : Go p e below W (T.setTop (mkF m pc Ls (.long x :: St))) := by
  subst hq; subst hz; exact G.on fun t k' => XS.l2i X.here hx rfl hd rfl k'
theorem g_i2b (X : Stand p l e R s m args below meth c T locs cells slots) (hx : p.tables.exec = Jvm.exec) {x : Int32} {z : Int32} (hd : decode c.code pc = .ok (.i2b, 1)) (hz : x.toInt8.toInt32 = z) (hq : pc + 1 = q) (G : Go p e below W (T.setTop (mkF m q Ls (.int z :: St)))) : Go p e below W (T.setTop (mkF m pc Ls (.int x :: St))) := by
  subst hq; subst hz; exact G.on fun t k' => XS.i2b X.here hx rfl hd rfl k'
theorem g_i2c (X : Stand p l e R s m args below meth c T locs cells slots) (hx : p.tables.exec = Jvm.exec) {x : Int32} {z : Int32} (hd : decode c.code pc = .ok (.i2c, 1)) (hz : x.toUInt32.toUInt16.toUInt32.toInt32 = z) (hq : pc + 1 = q) (G : Go p e below W (T.setTop (mkF m q Ls (.int z :: St)))) : Go p e below W (T.setTop (mkF m pc Ls (.int x :: St))) := by
  subst hq; subst hz; exact G.on fun t k' => XS.i2c X.here hx rfl hd rfl k'
theorem g_ineg (X : Stand p l e R s m args below meth c T locs cells slots) (hx : p.tables.exec = Jvm.exec) {x : Int32} {z : Int32} (hd : decode c.code pc = .ok (.ineg, 1)) (hz : -x = z) (hq : pc + 1 = q) (G : Go p e below W (T.setTop (mkF m q Ls (.int z :: St)))) : Go p e below W (T.setTop (mkF m pc Ls (.int x :: St))) := by
  subst hq; subst hz; exact G.on fun t k' => XS.ineg X.here hx rfl hd rfl k'
theorem g_dup (X : Stand p l e R s m args below meth c T locs cells slots) (hx : p.tables.exec = Jvm.exec) {x : Value} (hd : decode c.code pc = .ok (.dup, 1)) (hc : x.category = 1) (hq : pc + 1 = q) (G : Go p e below W (T.setTop (mkF m q Ls (x :: x :: St)))) : Go p e below W (T.setTop (mkF m pc Ls (x :: St))) := by
  subst hq; exact G.on fun t k' => XS.dup X.here hx rfl hd rfl hc k'
theorem g_pop (X : Stand p l e R s m args below meth c T locs cells slots) (hx : p.tables.exec = Jvm.exec) {x : Value} (hd : decode c.code pc = .ok (.pop, 1)) (hc : x.category = 1) (hq : pc + 1 = q) (G : Go p e below W (T.setTop (mkF m q Ls St))) : Go p e below W (T.setTop (mkF m pc Ls (x :: St))) := by
  subst hq; exact G.on fun t k' => XS.pop X.here hx rfl hd rfl hc k'
theorem g_dup_x1 (X : Stand p l e R s m args below meth c T locs cells slots) (hx : p.tables.exec = Jvm.exec) {x y : Value} (hd : decode c.code pc = .ok (.dup_x1, 1)) (hc : x.category = 1) (hc2 : y.category = 1) (hq : pc + 1 = q) (G : Go p e below W (T.setTop (mkF m q Ls (x :: y :: x :: St)))) : Go p e below W (T.setTop (mkF m pc Ls (x :: y :: St))) := by
  subst hq; exact G.on fun t k' => XS.dupX1 X.here hx rfl hd rfl hc hc2 k'
theorem g_iinc (X : Stand p l e R s m args below meth c T locs cells slots) (hx : p.tables.exec = Jvm.exec) {k : Nat} {cst : Int} {x z : Int32} {L' : Array Slot} (hd : decode c.code pc = .ok (.iinc k cst, 3)) (hl : Ls[k]? = some (.val (.int x))) (hz : x + Int32.ofInt cst = z) (hl' : storeLocals Ls k (.int z) = some L') (hq : pc + 3 = q) (G : Go p e below W (T.setTop (mkF m q L' St))) : Go p e below W (T.setTop (mkF m pc Ls St)) := by
  subst hq; subst hz; exact G.on fun t k' => XS.iinc X.here hx rfl hd hl hl' k'
theorem g_goto (X : Stand p l e R s m args below meth c T locs cells slots) (hx : p.tables.exec = Jvm.exec) {o : Int} (hd : decode c.code pc = .ok (.goto o, 3)) (ho : 0 ≤ (pc : Int) + o) (hq : ((pc : Int) + o).toNat = q) (G : Go p e below W (T.setTop (mkF m q Ls St))) : Go p e below W (T.setTop (mkF m pc Ls St)) :=
  G.on fun t k' => XS.goto X.here hx rfl rfl hd ho hq k'
end Plain
section Branches
variable {q2 : Nat}
theorem g_icmp (X : Stand p l e R s m args below meth c T locs cells slots) (hx : p.tables.exec = Jvm.exec) {cd : ClassFile.Cond} {x y : Int32} {o : Int} (hd : decode c.code pc = .ok (.if_icmp cd o, 3)) (ho : 0 ≤ (pc : Int) + o) (hq : ((pc : Int) + o).toNat = q) (hq2 : pc + 3 = q2)
    (Gy : if_icmp.holds cd x y = true → Go p e below W (T.setTop (mkF m q Ls St))) (Gn : if_icmp.holds cd x y = false → Go p e below W (T.setTop (mkF m q2 Ls St))) : Go p e below W (T.setTop (mkF m pc Ls (.int y :: .int x :: St))) := by
  subst hq2
  cases hc : if_icmp.holds cd x y with
  | true => exact (Gy hc).on fun t k => XS.icmpYes X.here hx rfl rfl hd rfl hc ho hq k
  | false => exact (Gn hc).on fun t k => XS.icmpNo X.here hx rfl hd rfl hc k
theorem g_if0 (X : Stand p l e R s m args below meth c T locs cells slots) (hx : p.tables.exec = Jvm.exec) {cd : ClassFile.Cond} {x : Int32} {o : Int} (hd : decode c.code pc = .ok (.ifCond cd o, 3)) (ho : 0 ≤ (pc : Int) + o) (hq : ((pc : Int) + o).toNat = q) (hq2 : pc + 3 = q2)
    (Gy : if_icmp.holds cd x 0 = true → Go p e below W (T.setTop (mkF m q Ls St))) (Gn : if_icmp.holds cd x 0 = false → Go p e below W (T.setTop (mkF m q2 Ls St))) : Go p e below W (T.setTop (mkF m pc Ls (.int x :: St))) := by
  subst hq2
  cases hc : if_icmp.holds cd x 0 with
  | true => exact (Gy hc).on fun t k => XS.ifYes X.here hx rfl rfl hd rfl ((if0 _ _).trans hc) ho hq k
  | false => exact (Gn hc).on fun t k => XS.ifNo X.here hx rfl hd rfl ((if0 _ _).trans hc) k
theorem g_icmp_eq (X : Stand p l e R s m args below meth c T locs cells slots) (hx : p.tables.exec = Jvm.exec) {x y : Int32} {o : Int} (hd : decode c.code pc = .ok (.if_icmp .eq o, 3)) (ho : 0 ≤ (pc : Int) + o) (hq : ((pc : Int) + o).toNat = q) (hq2 : pc + 3 = q2) (Gy : x = y → Go p e below W (T.setTop (mkF m q Ls St))) (Gn : ¬ x = y → Go p e below W (T.setTop (mkF m q2 Ls St))) : Go p e below W (T.setTop (mkF m pc Ls (.int y :: .int x :: St))) :=
  g_icmp X hx hd ho hq hq2 (fun h => Gy (by simpa [if_icmp.holds] using h)) (fun h => Gn (by simpa [if_icmp.holds] using h))
theorem g_if_eq (X : Stand p l e R s m args below meth c T locs cells slots) (hx : p.tables.exec = Jvm.exec) {x : Int32} {o : Int} (hd : decode c.code pc = .ok (.ifCond .eq o, 3)) (ho : 0 ≤ (pc : Int) + o) (hq : ((pc : Int) + o).toNat = q) (hq2 : pc + 3 = q2) (Gy : x = (0 : Int32) → Go p e below W (T.setTop (mkF m q Ls St))) (Gn : ¬ x = (0 : Int32) → Go p e below W (T.setTop (mkF m q2 Ls St))) : Go p e below W (T.setTop (mkF m pc Ls (.int x :: St))) :=
  g_if0 X hx hd ho hq hq2 (fun h => Gy (by simpa [if_icmp.holds] using h)) (fun h => Gn (by simpa [if_icmp.holds] using h))
theorem g_icmp_ne (X : Stand p l e R s m args below meth c T locs cells slots) (hx : p.tables.exec = Jvm.exec) {x y : Int32} {o : Int} (hd : decode c.code pc = .ok (.if_icmp .ne o, 3)) (ho : 0 ≤ (pc : Int) + o) (hq : ((pc : Int) + o).toNat = q) (hq2 : pc + 3 = q2) (Gy : ¬ x = y → Go p e below W (T.setTop (mkF m q Ls St))) (Gn : x = y → Go p e below W (T.setTop (mkF m q2 Ls St))) : Go p e below W (T.setTop (mkF m pc Ls (.int y :: .int x :: St))) :=
  g_icmp X hx hd ho hq hq2 (fun h => Gy (by simpa [if_icmp.holds] using h)) (fun h => Gn (by simpa [if_icmp.holds] using h))
theorem g_if_ne (X : Stand p l e R s m args below meth c T locs cells slots) (hx : p.tables.exec = Jvm.exec) {x : Int32} {o : Int} (hd : decode c.code pc = .ok (.ifCond .ne o, 3)) (ho : 0 ≤ (pc : Int) + o) (hq : ((pc : Int) + o).toNat = q) (hq2 : pc + 3 = q2) (Gy : ¬ x = (0 : Int32) → Go p e below W (T.setTop (mkF m q Ls St))) (Gn : x = (0 : Int32) → Go p e below W (T.setTop (mkF m q2 Ls St))) : Go p e below W (T.setTop (mkF m pc Ls (.int x :: St))) :=
  g_if0 X hx hd ho hq hq2 (fun h => Gy (by simpa [if_icmp.holds] using h)) (fun h => Gn (by simpa [if_icmp.holds] using h))
theorem g_icmp_lt (X : Stand p l e R s m args below meth c T locs cells slots) (hx : p.tables.exec = Jvm.exec) {x y : Int32} {o : Int} (hd : decode c.code pc = .ok (.if_icmp .lt o, 3)) (ho : 0 ≤ (pc : Int) + o) (hq : ((pc : Int) + o).toNat = q) (hq2 : pc + 3 = q2) (Gy : x < y → Go p e below W (T.setTop (mkF m q Ls St))) (Gn : ¬ x < y → Go p e below W (T.setTop (mkF m q2 Ls St))) : Go p e below W (T.setTop (mkF m pc Ls (.int y :: .int x :: St))) :=
  g_icmp X hx hd ho hq hq2 (fun h => Gy (by simpa [if_icmp.holds] using h)) (fun h => Gn (by simpa [if_icmp.holds] using h))
theorem g_if_lt (X : Stand p l e R s m args below meth c T locs cells slots) (hx : p.tables.exec = Jvm.exec) {x : Int32} {o : Int} (hd : decode c.code pc = .ok (.ifCond .lt o, 3)) (ho : 0 ≤ (pc : Int) + o) (hq : ((pc : Int) + o).toNat = q) (hq2 : pc + 3 = q2) (Gy : x < (0 : Int32) → Go p e below W (T.setTop (mkF m q Ls St))) (Gn : ¬ x < (0 : Int32) → Go p e below W (T.setTop (mkF m q2 Ls St))) : Go p e below W (T.setTop (mkF m pc Ls (.int x :: St))) :=
  g_if0 X hx hd ho hq hq2 (fun h => Gy (by simpa [if_icmp.holds] using h)) (fun h => Gn (by simpa [if_icmp.holds] using h))
theorem g_icmp_ge (X : Stand p l e R s m args below meth c T locs cells slots) (hx : p.tables.exec = Jvm.exec) {x y : Int32} {o : Int} (hd : decode c.code pc = .ok (.if_icmp .ge o, 3)) (ho : 0 ≤ (pc : Int) + o) (hq : ((pc : Int) + o).toNat = q) (hq2 : pc + 3 = q2) (Gy : ¬ x < y → Go p e below W (T.setTop (mkF m q Ls St))) (Gn : x < y → Go p e below W (T.setTop (mkF m q2 Ls St))) : Go p e below W (T.setTop (mkF m pc Ls (.int y :: .int x :: St))) :=
  g_icmp X hx hd ho hq hq2 (fun h => Gy (by simpa [if_icmp.holds] using h)) (fun h => Gn (by simpa [if_icmp.holds] using h))
theorem g_if_ge (X : Stand p l e R s m args below meth c T locs cells slots) (hx : p.tables.exec = Jvm.exec) {x : Int32} {o : Int} (hd : decode c.code pc = .ok (.ifCond .ge o, 3)) (ho : 0 ≤ (pc : Int) + o) (hq : ((pc : Int) + o).toNat = q) (hq2 : pc + 3 = q2) (Gy : ¬ x < (0 : Int32) → Go p e below W (T.setTop (mkF m q Ls St))) (Gn : x < (0 : Int32) → Go p e below W (T.setTop (mkF m q2 Ls St))) : Go p e below W (T.setTop (mkF m pc Ls (.int x :: St))) :=
  g_if0 X hx hd ho hq hq2 (fun h => Gy (by simpa [if_icmp.holds] using h)) (fun h => Gn (by simpa [if_icmp.holds] using h))
theorem g_icmp_gt (X : Stand p l e R s m args below meth c T locs cells slots) (hx : p.tables.exec = Jvm.exec) {x y : Int32} {o : Int} (hd : decode c.code pc = .ok (.if_icmp .gt o, 3)) (ho : 0 ≤ (pc : Int) + o) (hq : ((pc : Int) + o).toNat = q) (hq2 : pc + 3 = q2) (Gy : y < x → Go p e below W (T.setTop (mkF m q Ls St))) (Gn : ¬ y < x → Go p e below W (T.setTop (mkF m q2 Ls St))) : Go p e below W (T.setTop (mkF m pc Ls (.int y :: .int x :: St))) :=
  g_icmp X hx hd ho hq hq2 (fun h => Gy (by simpa [if_icmp.holds] using h)) (fun h => Gn (by simpa [if_icmp.holds] using h))
theorem g_if_gt (X : Stand p l e R s m args below meth c T locs cells slots) (hx : p.tables.exec = Jvm.exec) {x : Int32} {o : Int} (hd : decode c.code pc = .ok (.ifCond .gt o, 3)) (ho : 0 ≤ (pc : Int) + o) (hq : ((pc : Int) + o).toNat = q) (hq2 : pc + 3 = q2) (Gy : (0 : Int32) < x → Go p e below W (T.setTop (mkF m q Ls St))) (Gn : ¬ (0 : Int32) < x → Go p e below W (T.setTop (mkF m q2 Ls St))) : Go p e below W (T.setTop (mkF m pc Ls (.int x :: St))) :=
  g_if0 X hx hd ho hq hq2 (fun h => Gy (by simpa [if_icmp.holds] using h)) (fun h => Gn (by simpa [if_icmp.holds] using h))
theorem g_icmp_le (X : Stand p l e R s m args below meth c T locs cells slots) (hx : p.tables.exec = Jvm.exec) {x y : Int32} {o : Int} (hd : decode c.code pc = .ok (.if_icmp .le o, 3)) (ho : 0 ≤ (pc : Int) + o) (hq : ((pc : Int) + o).toNat = q) (hq2 : pc + 3 = q2) (Gy : ¬ y < x → Go p e below W (T.setTop (mkF m q Ls St))) (Gn : y < x → Go p e below W (T.setTop (mkF m q2 Ls St))) : Go p e below W (T.setTop (mkF m pc Ls (.int y :: .int x :: St))) :=
  g_icmp X hx hd ho hq hq2 (fun h => Gy (by simpa [if_icmp.holds] using h)) (fun h => Gn (by simpa [if_icmp.holds] using h))
theorem g_if_le (X : Stand p l e R s m args below meth c T locs cells slots) (hx : p.tables.exec = Jvm.exec) {x : Int32} {o : Int} (hd : decode c.code pc = .ok (.ifCond .le o, 3)) (ho : 0 ≤ (pc : Int) + o) (hq : ((pc : Int) + o).toNat = q) (hq2 : pc + 3 = q2) (Gy : ¬ (0 : Int32) < x → Go p e below W (T.setTop (mkF m q Ls St))) (Gn : (0 : Int32) < x → Go p e below W (T.setTop (mkF m q2 Ls St))) : Go p e below W (T.setTop (mkF m pc Ls (.int x :: St))) :=
  g_if0 X hx hd ho hq hq2 (fun h => Gy (by simpa [if_icmp.holds] using h)) (fun h => Gn (by simpa [if_icmp.holds] using h))
theorem g_acmpEq (X : Stand p l e R s m args below meth c T locs cells slots) (hx : p.tables.exec = Jvm.exec) {x y : Value} (h1 : x.isRef = true) (h2 : y.isRef = true) {o : Int} (hd : decode c.code pc = .ok (.if_acmp .eq o, 3)) (ho : 0 ≤ (pc : Int) + o) (hq : ((pc : Int) + o).toNat = q) (hq2 : pc + 3 = q2)
    (Gy : x = y → Go p e below W (T.setTop (mkF m q Ls St))) (Gn : ¬ x = y → Go p e below W (T.setTop (mkF m q2 Ls St))) : Go p e below W (T.setTop (mkF m pc Ls (y :: x :: St))) := by
  by_cases hc : x = y
  · exact (Gy hc).on fun t k => Jvm.RoadKit.acmp X hx rfl h1 h2 (pc0 := pc) (same := true) rfl hd rfl (decide_eq_true hc) ho (by simp [acV, hq]) k
  · exact (Gn hc).on fun t k => Jvm.RoadKit.acmp X hx rfl h1 h2 (pc0 := pc) (same := false) rfl hd rfl (decide_eq_false hc) ho (by simp [acV, hq2]) k
theorem g_acmpNe (X : Stand p l e R s m args below meth c T locs cells slots) (hx : p.tables.exec = Jvm.exec) {x y : Value} (h1 : x.isRef = true) (h2 : y.isRef = true) {o : Int} (hd : decode c.code pc = .ok (.if_acmp .ne o, 3)) (ho : 0 ≤ (pc : Int) + o) (hq : ((pc : Int) + o).toNat = q) (hq2 : pc + 3 = q2)
    (Gy : ¬ x = y → Go p e below W (T.setTop (mkF m q Ls St))) (Gn : x = y → Go p e below W (T.setTop (mkF m q2 Ls St))) : Go p e below W (T.setTop (mkF m pc Ls (y :: x :: St))) := by
  by_cases hc : x = y
  · exact (Gn hc).on fun t k => Jvm.RoadKit.acmp X hx rfl h1 h2 (pc0 := pc) (same := true) rfl hd rfl (decide_eq_true hc) ho (by simp [acV, hq2]) k
  · exact (Gy hc).on fun t k => Jvm.RoadKit.acmp X hx rfl h1 h2 (pc0 := pc) (same := false) rfl hd rfl (decide_eq_false hc) ho (by simp [acV, hq]) k
theorem g_ifnullY (X : Stand p l e R s m args below meth c T locs cells slots) (hx : p.tables.exec = Jvm.exec) {o : Int} (hd : decode c.code pc = .ok (.ifnull o, 3)) (ho : 0 ≤ (pc : Int) + o) (hq : ((pc : Int) + o).toNat = q) (G : Go p e below W (T.setTop (mkF m q Ls St))) : Go p e below W (T.setTop (mkF m pc Ls (.null :: St))) :=
  G.on fun t k => XS.ifnullYes X.here hx rfl rfl hd rfl ho hq k
theorem g_ifnullN (X : Stand p l e R s m args below meth c T locs cells slots) (hx : p.tables.exec = Jvm.exec) {o : Int} {b : Addr} (hd : decode c.code pc = .ok (.ifnull o, 3)) (hq : pc + 3 = q) (G : Go p e below W (T.setTop (mkF m q Ls St))) : Go p e below W (T.setTop (mkF m pc Ls (.ref b :: St))) := by
  subst hq; exact G.on fun t k => XS.ifnullNo X.here hx rfl hd rfl k
theorem g_ifnonnullN (X : Stand p l e R s m args below meth c T locs cells slots) (hx : p.tables.exec = Jvm.exec) {o : Int} (hd : decode c.code pc = .ok (.ifnonnull o, 3)) (hq : pc + 3 = q) (G : Go p e below W (T.setTop (mkF m q Ls St))) : Go p e below W (T.setTop (mkF m pc Ls (.null :: St))) := by
  subst hq; exact G.on fun t k => XS.ifnonnullNo X.here hx rfl hd rfl k
theorem g_ifnonnullY (X : Stand p l e R s m args below meth c T locs cells slots) (hx : p.tables.exec = Jvm.exec) {o : Int} {b : Addr} (hd : decode c.code pc = .ok (.ifnonnull o, 3)) (ho : 0 ≤ (pc : Int) + o) (hq : ((pc : Int) + o).toNat = q) (G : Go p e below W (T.setTop (mkF m q Ls St))) : Go p e below W (T.setTop (mkF m pc Ls (.ref b :: St))) :=
  G.on fun t k => XS.ifnonnullYes X.here hx rfl rfl hd rfl ho hq k
end Branches
section HeapSteps
theorem g_ldcI (X : Stand p l e R s m args below meth c T locs cells slots) (hx : p.tables.exec = Jvm.exec) (hZ : Z.Warmed39 s.vm) {own : String} {index : Nat} {v : Int32} (hown : s.vm.findClass own = some m.cls) (w : (Jvm.Cond.constant own index v).before a0 Z = true) (hd : decode c.code pc = .ok (.ldc index, 2)) (hq : pc + 2 = q)
    (G : Go p e below W (T.setTop (mkF m q Ls (.int v :: St)))) : Go p e below W (T.setTop (mkF m pc Ls St)) := by
  subst hq; exact G.on fun t k => X.ldcInt hx hown (mvT hZ w) (g := mkF m pc Ls St) rfl hd t k
theorem g_ldcJ (X : Stand p l e R s m args below meth c T locs cells slots) (hx : p.tables.exec = Jvm.exec) (hZ : Z.Warmed39 s.vm) {own : String} {index : Nat} {v : Int64} (hown : s.vm.findClass own = some m.cls) (w : (Jvm.Cond.constantLong own index v).before a0 Z = true) (hd : decode c.code pc = .ok (.ldc2_w index, 3)) (hq : pc + 3 = q)
    (G : Go p e below W (T.setTop (mkF m q Ls (.long v :: St)))) : Go p e below W (T.setTop (mkF m pc Ls St)) := by
  subst hq; exact G.on fun t k => X.ldc2Long hx hown (mvT hZ w) (g := mkF m pc Ls St) rfl hd t k
theorem g_getF (X : Stand p l e R s m args below meth c T locs cells slots) (hx : p.tables.exec = Jvm.exec) (hZ : Z.Warmed39 s.vm) {own R0 O n d : String} {index : Nat} (hown : s.vm.findClass own = some m.cls) (w : (Jvm.Cond.fieldLink own index R0 n d).before a0 Z = true) (via : Via Z R0 O n d)
    (eT : T.heap = h) {a : Addr} {v : Value} (F : Fld Z h a O n d v) (hd : decode c.code pc = .ok (.getfield index, 3)) (hq : pc + 3 = q)
    (G : ∀ T', Stand p l e R s m args below meth c T' locs cells slots → T'.heap = h → Go p e below W (T'.setTop (mkF m q Ls (v :: St)))) : Go p e below W (T.setTop (mkF m pc Ls (.ref a :: St))) := by
  subst hq
  obtain ⟨T', X', e', st⟩ := getF X hx hZ hown (host := "") (Or.inl w) via eT F (g := mkF m pc Ls (.ref a :: St)) rfl rfl hd
  exact (G T' X' e').on st
theorem g_getS (X : Stand p l e R s m args below meth c T locs cells slots) (hx : p.tables.exec = Jvm.exec) (hZ : Z.Warmed39 s.vm) {own R0 O n d : String} {index : Nat} (hown : s.vm.findClass own = some m.cls) (w : (Jvm.Cond.fieldLink own index R0 n d).before a0 Z = true) (via : Via Z R0 O n d)
    (eT : T.heap = h) {v : Value} (F : Sta Z h O n d v) (hd : decode c.code pc = .ok (.getstatic index, 3)) (hq : pc + 3 = q)
    (G : ∀ T', Stand p l e R s m args below meth c T' locs cells slots → T'.heap = h → Go p e below W (T'.setTop (mkF m q Ls (v :: St)))) : Go p e below W (T.setTop (mkF m pc Ls St)) := by
  subst hq
  obtain ⟨T', X', e', st⟩ := getS2 X hx hZ hown (host := "") (Or.inl w) via eT F (g := mkF m pc Ls St) rfl hd
  exact (G T' X' e').on st
theorem g_putF (X : Stand p l e R s m args below meth c T locs cells slots) (hx : p.tables.exec = Jvm.exec) (hZ : Z.Warmed39 s.vm) {own R0 O n d C : String} {index kk : Nat} {ty : FieldType} (hown : s.vm.findClass own = some m.cls) (w : (Jvm.Cond.fieldLink own index R0 n d).before a0 Z = true) (via : Via Z R0 O n d)
    (eT : T.heap = h) {a : Addr} {v old : Value} (F : Fld Z h a O n d old) (E : Exa Z h a C) (L : (Jvm.Cond.lays C O n d).before a0 Z = true ∨ ((Jvm.Cond.laysFinal C O n d).before a0 Z = true ∧ own = O ∧ meth.name = "<init>")) (wi : (Jvm.Cond.instantiable C kk).before a0 Z = true)
    (hty : parseFieldDescriptor d = some ty) (hn : narrow ty v = v) (hf : fits ty v = true) (hd : decode c.code pc = .ok (.putfield index, 3)) (hq : pc + 3 = q)
    (G : ∀ T' h', Stand p l e R s m args below meth c T' (locs ++ [⟨a, Jvm.RoadKit.slotOf Z O n d⟩]) cells slots → T'.heap = h' → Wr h h' a (Jvm.RoadKit.slotOf Z O n d) v → Go p e below W (T'.setTop (mkF m q Ls St))) : Go p e below W (T.setTop (mkF m pc Ls (v :: .ref a :: St))) := by
  subst hq
  obtain ⟨T', h', X', e', W', st⟩ := putF X hx hZ hown (host := "") (Or.inl w) via eT F E L wi hty hn hf (g := mkF m pc Ls (v :: .ref a :: St)) rfl rfl hd
  exact (G T' h' X' e' W').on st
theorem g_new (X : Stand p l e R s m args below meth c T locs cells slots) (hx : p.tables.exec = Jvm.exec) (hZ : Z.Warmed39 s.vm) {own C : String} {index n : Nat} (hown : s.vm.findClass own = some m.cls) (w : (Jvm.Cond.classLink own index C).before a0 Z = true) (wi : (Jvm.Cond.instantiable C n).before a0 Z = true) (wz : (Jvm.Cond.initialized C).before a0 Z = true) (eT : T.heap = h)
    (hd : decode c.code pc = .ok (.new index, 3)) (hc : cells + 1 ≤ R.cells) (hl : slots + n ≤ R.slots) (hq : pc + 3 = q)
    (G : ∀ T' h' b, b = h.size → Stand p l e R s m args below meth c T' locs (cells + 1) (slots + n) → T'.heap = h' → Ext h h' → Exa Z h' b C → (∀ {O nm d : String} {ty : FieldType}, Laid Z a0 C O nm d → parseFieldDescriptor d = some ty → Fld Z h' b O nm d (defaultValue ty)) → Go p e below W (T'.setTop (mkF m q Ls (.ref b :: St)))) :
    Go p e below W (T.setTop (mkF m pc Ls St)) := by
  subst hq
  obtain ⟨T', h', X', e', E', A', D', -, st⟩ := newO X hx hZ hown w wi wz eT (g := mkF m pc Ls St) rfl hd hc hl
  exact (G T' h' _ rfl X' e' E' A' D').on st
theorem g_newP (X : Stand p l e R s m args below meth c T locs cells slots) (hx : p.tables.exec = Jvm.exec) (hZ : Z.Warmed39 s.vm) {aty : ArrayType} (w : (Jvm.Cond.arrayClass (newarray.typeOf aty)).before a0 Z = true) (eT : T.heap = h) (hd : decode c.code pc = .ok (.newarray aty, 2)) {n : Int32} (hn : ¬ n < 0) {cap : Nat} (hcap : n.toNatClampNeg ≤ cap) (hb : cap * 8 ≤ 536870912) (hc : cells + 1 ≤ R.cells) (hl : slots + cap ≤ R.slots) (hq : pc + 2 = q)
    (G : ∀ T' h' cA b, b = h.size → Stand p l e R s m args below meth c T' locs (cells + 1) (slots + cap) → T'.heap = h' → Ext h h' → Arr Z h' b (newA cA (newarray.typeOf aty) n) (newarray.typeOf aty) → Go p e below W (T'.setTop (mkF m q Ls (.ref b :: St)))) :
    Go p e below W (T.setTop (mkF m pc Ls (.int n :: St))) := by
  subst hq
  obtain ⟨T', h', cA, X', e', E', A', st⟩ := newP X hx hZ w eT (g := mkF m pc Ls (.int n :: St)) rfl hd rfl hn hcap hb hc hl
  exact (G T' h' cA _ rfl X' e' E' A').on st
theorem g_initO (X : Stand p l e R s m args below meth c T locs cells slots) (hx : p.tables.exec = Jvm.exec) (hZ : Z.Warmed39 s.vm) {own : String} {idx : Nat} (hown : s.vm.findClass own = some m.cls) (w1 : (Jvm.Cond.methodLink own idx Lib.objectInit).before a0 Z = true) (w2 : (Jvm.Cond.instanceMethod Lib.objectInit).before a0 Z = true)
    (w3 : (Jvm.Cond.code Lib.objectInit ⟨#[0xb1]⟩ 1 none).before a0 Z = true) (eT : T.heap = h) (hsz : Ls.size = c.maxLocals) {a : Addr} (hd : decode c.code pc = .ok (.invokespecial idx, 3)) (hf : 1 ≤ R.frames) (hl : (St.map fun v => v.category).sum + 12 ≤ R.locals) (hq : pc + 3 = q)
    (G : ∀ T', Stand p l e R s m args below meth c T' locs cells slots → T'.heap = h → Go p e below W (T'.setTop (mkF m q Ls St))) : Go p e below W (T.setTop (mkF m pc Ls (.ref a :: St))) := by
  subst hq
  obtain ⟨T', X', e', st⟩ := initO X hx hZ hown w1 w2 w3 eT (g := mkF m pc Ls (.ref a :: St)) rfl hsz rfl hd hf (W := (St.map fun v => v.category).sum) (by simp) hl
  exact (G T' X' e').on st
end HeapSteps
section Calls
variable {y z : MethodName} {bytes : ByteArray} {ml : Nat} {ret r : Option FieldType} {rm : Room} {as' : Array Value} {Q : Option Value → Heap → List Loc → Prop} {own C : String} {index : Nat} {ps : List FieldType}
theorem g_pure {V : Option Value} {rest : List Value} (h1 : rm.cells = 0) (h2 : rm.slots = 0) (G : ∀ T', Stand p l e R s m args below meth c T' locs cells slots → T'.heap = h → Go p e below W (T'.setTop (mkF m q Ls (V.toList ++ rest)))) :
    ∀ v T' L, Stand p l e R s m args below meth c T' (locs ++ L) (cells + rm.cells) (slots + rm.slots) → Pur V h v T'.heap L → Go p e below W (T'.setTop (mkF m q Ls (v.toList ++ rest))) := by
  intro v T' L X' hQ
  obtain ⟨rfl, rfl, e'⟩ := hQ
  rw [h1, h2, List.append_nil] at X'
  exact G T' X' e'
theorem g_callS (X : Stand p l e R s m args below meth c T locs cells slots) (hx : p.tables.exec = Jvm.exec) (hZ : Z.Warmed39 s.vm) (hown : s.vm.findClass own = some m.cls) (w1 : (Jvm.Cond.methodLink own index y).before a0 Z = true) (w2 : (Jvm.Cond.static y).before a0 Z = true) (w3 : (Jvm.Cond.initialized y.cls).before a0 Z = true) (w4 : (Jvm.Cond.code y bytes ml ret).before a0 Z = true)
    (hy : y.cls ≠ "java/lang/invoke/MethodHandle" ∧ y.cls ≠ "java/lang/invoke/VarHandle") (eT : T.heap = h) (hM : Con l Z h y bytes ml ret rm as' Q) (hsz : Ls.size = c.maxLocals) {argsL rest : List Value} (hst : St = argsL.reverse ++ rest) (has : argsL.toArray = as') (hpd : parseMethodDescriptor y.desc = some ⟨ps, r⟩) (hln : argsL.length = ps.length)
    (hf : rm.frames + 1 ≤ R.frames) (hl : (rest.map fun v => v.category).sum + (ml + 11) + rm.locals ≤ R.locals) (hc : cells + rm.cells ≤ R.cells) (hs : slots + rm.slots ≤ R.slots) (hd : decode c.code pc = .ok (.invokestatic index, 3)) (hq : pc + 3 = q)
    (G : ∀ v T' L, Stand p l e R s m args below meth c T' (locs ++ L) (cells + rm.cells) (slots + rm.slots) → Q v T'.heap L → Go p e below W (T'.setTop (mkF m q Ls (v.toList ++ rest)))) : Go p e below W (T.setTop (mkF m pc Ls St)) := by
  subst hq has
  obtain ⟨v, _, ⟨T', L', k', n'⟩, -, X', ⟨L, hQ, l', y', z'⟩, st⟩ := Jvm.LawKit.callS X hx hown (mvT hZ w1) (mvT hZ w2) (mvT hZ w3) (mvT hZ w4) hy (backOf (W := (rest.map fun v => v.category).sum) (hM []) hZ w4 w3 hf hl) (g := mkF m pc Ls St) rfl hsz (argsL := argsL) (rest := rest) (lenOf hpd hln) hst (by simp) hd (fun _ _ => ⟨rfl, eT, hc, hs⟩)
  dsimp only [Pt.U, Pt.locs, Pt.cells, Pt.slots] at X' l' y' z' st hQ
  subst l' y' z'
  exact (G v T' L X' hQ).on st
theorem g_callV (X : Stand p l e R s m args below meth c T locs cells slots) (hx : p.tables.exec = Jvm.exec) (hZ : Z.Warmed39 s.vm) (hown : s.vm.findClass own = some m.cls) (w1 : (Jvm.Cond.methodLink own index y).before a0 Z = true) (w2 : (Jvm.Cond.declares y).before a0 Z = true) (w3 : (Jvm.Cond.selects C y z).before a0 Z = true) (w4 : (Jvm.Cond.instanceMethod z).before a0 Z = true) (w5 : (Jvm.Cond.code z bytes ml ret).before a0 Z = true) (w6 : (Jvm.Cond.initialized z.cls).before a0 Z = true)
    (hnf : NotFace s y) (hy : y.cls ≠ "java/lang/invoke/MethodHandle" ∧ y.cls ≠ "java/lang/invoke/VarHandle") (eT : T.heap = h) {b : Addr} (E : Exa Z h b C) (hM : Con l Z h z bytes ml ret rm as' Q) (hsz : Ls.size = c.maxLocals) {argsL rest : List Value} (hst : St = argsL.reverse ++ .ref b :: rest) (has : (Value.ref b :: argsL).toArray = as') (hpd : parseMethodDescriptor y.desc = some ⟨ps, r⟩) (hln : argsL.length = ps.length)
    (hf : rm.frames + 1 ≤ R.frames) (hl : (rest.map fun v => v.category).sum + (ml + 11) + rm.locals ≤ R.locals) (hc : cells + rm.cells ≤ R.cells) (hs : slots + rm.slots ≤ R.slots) (hd : decode c.code pc = .ok (.invokevirtual index, 3)) (hq : pc + 3 = q)
    (G : ∀ v T' L, Stand p l e R s m args below meth c T' (locs ++ L) (cells + rm.cells) (slots + rm.slots) → Q v T'.heap L → Go p e below W (T'.setTop (mkF m q Ls (v.toList ++ rest)))) : Go p e below W (T.setTop (mkF m pc Ls St)) := by
  subst hq has
  obtain ⟨cq, kq, qa, qb, qc⟩ := isOf hZ eT E
  obtain ⟨v, _, ⟨T', L', k', n'⟩, -, X', ⟨L, hQ, l', y', z'⟩, st⟩ := X.virtualBack hx hown (mvT hZ w1) (mvT hZ w2) hnf (mvT hZ w3) (mvT hZ w4) hy (backOf (W := (rest.map fun v => v.category).sum) (hM []) hZ w5 w6 hf hl) qa qc (g := mkF m pc Ls St) rfl hsz (Steps.refl _) (argsL := argsL) (rest := rest) (lenOf hpd hln) hst (by simp) hd (fun _ _ => ⟨rfl, eT, hc, hs⟩)
  dsimp only [Pt.U, Pt.locs, Pt.cells, Pt.slots] at X' l' y' z' st hQ
  subst l' y' z'
  exact (G v T' L X' hQ).on fun t k => st.trans k
theorem g_callI (X : Stand p l e R s m args below meth c T locs cells slots) (hx : p.tables.exec = Jvm.exec) (hZ : Z.Warmed39 s.vm) (hown : s.vm.findClass own = some m.cls) (hnm : y.name = "<init>") (w1 : (Jvm.Cond.methodLink own index y).before a0 Z = true) (w2 : (Jvm.Cond.instanceMethod y).before a0 Z = true) (w3 : (Jvm.Cond.code y bytes ml none).before a0 Z = true) (w4 : (Jvm.Cond.initialized y.cls).before a0 Z = true)
    (hy : y.cls ≠ "java/lang/invoke/MethodHandle" ∧ y.cls ≠ "java/lang/invoke/VarHandle") (eT : T.heap = h) {b : Addr} (hM : Con l Z h y bytes ml none rm as' Q) (hsz : Ls.size = c.maxLocals) {argsL rest : List Value} (hst : St = argsL.reverse ++ .ref b :: rest) (has : (Value.ref b :: argsL).toArray = as') (hpd : parseMethodDescriptor y.desc = some ⟨ps, r⟩) (hln : argsL.length = ps.length)
    (hf : rm.frames + 1 ≤ R.frames) (hl : (rest.map fun v => v.category).sum + (ml + 11) + rm.locals ≤ R.locals) (hc : cells + rm.cells ≤ R.cells) (hs : slots + rm.slots ≤ R.slots) (hd : decode c.code pc = .ok (.invokespecial index, 3)) (hq : pc + 3 = q)
    (G : ∀ v T' L, Stand p l e R s m args below meth c T' (locs ++ L) (cells + rm.cells) (slots + rm.slots) → Q v T'.heap L → Go p e below W (T'.setTop (mkF m q Ls (v.toList ++ rest)))) : Go p e below W (T.setTop (mkF m pc Ls St)) := by
  subst hq has
  obtain ⟨v, _, ⟨T', L', k', n'⟩, -, X', ⟨L, hQ, l', y', z'⟩, st⟩ := X.specialBack hx (y := y) hnm hown (mvT hZ w1) (mvT hZ w2) (mvT hZ w3) hy (backOf (W := (rest.map fun v => v.category).sum) (hM []) hZ w3 w4 hf hl) (g := mkF m pc Ls St) rfl hsz (Steps.refl _) (a := b) (argsL := argsL) (rest := rest) (lenOf hpd hln) hst (by simp) hd (fun _ _ => ⟨rfl, eT, hc, hs⟩)
  dsimp only [Pt.U, Pt.locs, Pt.cells, Pt.slots] at X' l' y' z' st hQ
  subst l' y' z'
  exact (G v T' L X' hQ).on fun t k => st.trans k
end Calls
end OwnKit
section OwnMore
theorem own_sta_keep {Z : State} {h h' : Heap} {C n d : String} {w : Value} {ws : List Addr} (F : Sta Z h C n d w) (K : Keep h h' ws) (hn : ∀ x ∈ ws, ∀ cell : Cell, h[x]? = some cell → cell.vm.isStatics = false) : Sta Z h' C n d w := by
  obtain ⟨cf, i, k, f, st, cell, h1, h2, h3, h4, h5, h6, h7⟩ := F
  exact ⟨cf, i, k, f, st, cell, h1, h2, h3, h4, K.2.1 _ _ h5 (fun q => by rw [hn _ q _ h5] at h6; cases h6), h6, h7⟩
theorem own_cat1 {v : Value} (h : v.isRef = true) : v.category = 1 := by cases v <;> first | rfl | cases h
theorem own_nar {C : String} {v : Value} (h : v.isRef = true) : narrow (.object C) v = v := by cases v <;> first | rfl | cases h
theorem own_fit {C : String} {v : Value} (h : v.isRef = true) : fits (.object C) v = true := by cases v <;> first | rfl | cases h
theorem own_noref {a b : Addr} (h : ¬ a = b) : ¬ (Value.ref a = Value.ref b) := fun q => h (Value.ref.inj q)
end OwnMore
section OwnStart
variable {args : Array Value} {s : State}
theorem own_fldI {t : Term} {C n d : String} {k : Int32} {a : Addr} (ev : t.eval args s none [] s = some (.ref a)) (hh : (Jvm.Cond.eq (Term.field t C n d) (Term.int k)).value args s none s [] = some true) : Fld s s.heap a C n d (.int k) := by
  obtain ⟨x, y, e1, e2, k1, k2⟩ := cmp_v (Or.inl hh)
  obtain rfl : y = .int k := (Option.some.inj ((Term.int_eval k).symm.trans e2)).symm
  obtain ⟨z, rfl⟩ := k2
  have q : z = k := by simpa [Cond.value, e1, e2] using hh
  subst q
  exact Fld.start ((fld_at ev).symm.trans e1)
theorem own_fldJ {t : Term} {C n d : String} {k : Int64} {a : Addr} (ev : t.eval args s none [] s = some (.ref a)) (hh : (Jvm.Cond.eq (Term.field t C n d) (Term.long k)).value args s none s [] = some true) : Fld s s.heap a C n d (.long k) := by
  obtain ⟨x, y, e1, e2, k1, k2⟩ := cmp_v (Or.inl hh)
  obtain rfl : y = .long k := (Option.some.inj ((long_at k).symm.trans e2)).symm
  obtain ⟨z, rfl⟩ := k2
  have q : z = k := by simpa [Cond.value, e1, e2] using hh
  subst q
  exact Fld.start ((fld_at ev).symm.trans e1)
end OwnStart
def own_kind (p : Int32) (w1 w2 : Addr) : Value := if (p &&& (2147483647 : Int32)) % (3 : Int32) = 0 then .null else if (p &&& (2147483647 : Int32)) % (3 : Int32) = 1 then .ref w1 else .ref w2
theorem own_kinds (p : Int32) (w1 w2 : Addr) : own_kind p w1 w2 = .null ∨ own_kind p w1 w2 = .ref w1 ∨ own_kind p w1 w2 = .ref w2 := by
  unfold own_kind; split
  · exact Or.inl rfl
  · split
    · exact Or.inr (Or.inl rfl)
    · exact Or.inr (Or.inr rfl)
theorem own_isref {v : Value} {w1 w2 : Addr} (h : v = .null ∨ v = .ref w1 ∨ v = .ref w2) : v.isRef = true := by rcases h with rfl | rfl | rfl <;> rfl
def own_can (ve vs : Value) (me ms : Int32) (w1 w2 : Addr) : Int32 := if ve = .null ∧ vs = .null then (if ms < me then 1 else 0) else if ve = .null ∨ vs = .null then 1 else if vs = .ref w1 ∧ ve = .ref w2 then 1 else 0
theorem own_gap (x y : Int32) : (0 : Int32) < lcmpW (x.toInt64 - y.toInt64) (0 : Int64) ↔ y < x := by
  rw [lw_gt, Int64.lt_iff_toInt_lt, Int32.lt_iff_toInt_lt]
  have h1 := c_lsub x.toInt64 y.toInt64
  have h2 := rng64 (x.toInt64 - y.toInt64)
  have h3 := rng32 x
  have h4 := rng32 y
  rw [c_i2l, c_i2l] at h1
  have h5 : (0 : Int64).toInt = 0 := rfl
  omega
theorem pd_0 : parseMethodDescriptor "()V" = some ⟨[], none⟩ := by decide +kernel
theorem pd_1 : parseMethodDescriptor "()Lcom/example/skyledger/skyledger/SolarEvent;" = some ⟨[], some (.object "com/example/skyledger/skyledger/SolarEvent")⟩ := by decide +kernel
theorem pd_2 : parseMethodDescriptor "()I" = some ⟨[], some .int⟩ := by decide +kernel
theorem pd_3 : parseMethodDescriptor "(I)Lcom/example/skyledger/skyledger/SolarEvent;" = some ⟨[.int], some (.object "com/example/skyledger/skyledger/SolarEvent")⟩ := by decide +kernel
theorem pd_4 : parseMethodDescriptor "(ILcom/example/skyledger/skyledger/SolarEvent;)V" = some ⟨[.int, (.object "com/example/skyledger/skyledger/SolarEvent")], none⟩ := by decide +kernel
theorem pd_5 : parseMethodDescriptor "(Lcom/example/skyledger/skyledger/TimeOfDay;)Z" = some ⟨[(.object "com/example/skyledger/skyledger/TimeOfDay")], some .boolean⟩ := by decide +kernel
theorem pd_6 : parseMethodDescriptor "(Lcom/example/skyledger/skyledger/SolarEvent;)I" = some ⟨[(.object "com/example/skyledger/skyledger/SolarEvent")], some .int⟩ := by decide +kernel
theorem pn_0 : plainName "com/example/skyledger/skyledger/TimeOfDayCanFollowOnItsDatePinLaw" = true := by first | (simp [plainName, overriddenIn]; done) | decide +kernel
theorem pn_1 : plainName "java/lang/Record" = true := by first | (simp [plainName, overriddenIn]; done) | decide +kernel
theorem pn_2 : plainName "com/example/skyledger/skyledger/TimeOfDay" = true := by first | (simp [plainName, overriddenIn]; done) | decide +kernel
theorem d1_0 : decode method_2_code 0 = .ok (.iload_n 0, 1) := by decide +kernel
theorem d1_1 : decode method_2_code 1 = .ok (.ldc 7, 2) := by decide +kernel
theorem d1_3 : decode method_2_code 3 = .ok (.iand, 1) := by decide +kernel
theorem d1_4 : decode method_2_code 4 = .ok (.iconst 3, 1) := by decide +kernel
theorem d1_5 : decode method_2_code 5 = .ok (.irem, 1) := by decide +kernel
theorem d1_6 : decode method_2_code 6 = .ok (.istore_n 1, 1) := by decide +kernel
theorem d1_7 : decode method_2_code 7 = .ok (.iload_n 1, 1) := by decide +kernel
theorem d1_8 : decode method_2_code 8 = .ok (.ifCond .ne 5, 3) := by decide +kernel
theorem d1_11 : decode method_2_code 11 = .ok (.aconst_null, 1) := by decide +kernel
theorem d1_12 : decode method_2_code 12 = .ok (.areturn, 1) := by decide +kernel
theorem d1_13 : decode method_2_code 13 = .ok (.iload_n 1, 1) := by decide +kernel
theorem d1_14 : decode method_2_code 14 = .ok (.iconst 1, 1) := by decide +kernel
theorem d1_15 : decode method_2_code 15 = .ok (.if_icmp .ne 7, 3) := by decide +kernel
theorem d1_18 : decode method_2_code 18 = .ok (.getstatic 8, 3) := by decide +kernel
theorem d1_21 : decode method_2_code 21 = .ok (.areturn, 1) := by decide +kernel
theorem d1_22 : decode method_2_code 22 = .ok (.getstatic 14, 3) := by decide +kernel
theorem d1_25 : decode method_2_code 25 = .ok (.areturn, 1) := by decide +kernel
set_option maxRecDepth 65536 in
set_option maxHeartbeats 40000000 in
theorem rmK (l : Launch) (Z : State) (a0 : Array Value) (hw : ∀ d ∈ tables_1, d.before a0 Z = true) (k : Int32) (w1 w2 : Addr) (h0 : Heap) (SR : Sta Z h0 "com/example/skyledger/skyledger/SolarEvent" "SUNRISE" "Lcom/example/skyledger/skyledger/SolarEvent;" (.ref w1)) (SS : Sta Z h0 "com/example/skyledger/skyledger/SolarEvent" "SUNSET" "Lcom/example/skyledger/skyledger/SolarEvent;" (.ref w2)) (r : Value) (hr : own_kind k w1 w2 = r) :
    Con l Z h0 (⟨"com/example/skyledger/skyledger/TimeOfDayCanFollowOnItsDatePinLaw", "kind", "(I)Lcom/example/skyledger/skyledger/SolarEvent;"⟩ : MethodName) method_2_code 2 (some (.object "com/example/skyledger/skyledger/SolarEvent")) ({ frames := 0, cells := 0, slots := 0, locals := 0 } : Room) #[(.int k)] (Pur (some r) h0) := by
  refine con_of (plainFor_of_name pn_0) (Ls := #[.val (.int k), .unset]) (fun m => by first | rfl | (simp [entryFrame, mkF, argsToLocals, Value.category]; done)) ?_
  intro p e s m below meth c s₁ hx hZ hby hml hret hlk hnm hown X0 e0
  refine g_iloadN X0 hx (hb hby d1_0) (v := k) rfl (q := 1) rfl ?_
  refine g_ldcI X0 hx hZ hown (hw _ (List.mem_of_getElem? (i := 4) rfl)) (hb hby d1_1) (q := 3) rfl ?_
  refine g_iand X0 hx (hb hby d1_3) (z := (k &&& (2147483647 : Int32))) rfl (q := 4) rfl ?_
  refine g_iconst X0 hx (hb hby d1_4) (n := (3 : Int32)) (by decide) (q := 5) rfl ?_
  refine g_irem X0 hx (hb hby d1_5) (by decide) (z := ((k &&& (2147483647 : Int32)) % (3 : Int32))) rfl (q := 6) rfl ?_
  refine g_istoreN X0 hx (hb hby d1_6) (L' := #[.val (.int k), .val (.int ((k &&& (2147483647 : Int32)) % (3 : Int32)))]) rfl (q := 7) rfl ?_
  refine g_iloadN X0 hx (hb hby d1_7) (v := ((k &&& (2147483647 : Int32)) % (3 : Int32))) rfl (q := 8) rfl ?_
  refine g_if_ne X0 hx (hb hby d1_8) (by decide) (q := 13) (by decide) (q2 := 11) rfl (fun hb8 => ?_) (fun hb8 => ?_)
  · refine g_iloadN X0 hx (hb hby d1_13) (v := ((k &&& (2147483647 : Int32)) % (3 : Int32))) rfl (q := 14) rfl ?_
    refine g_iconst X0 hx (hb hby d1_14) (n := (1 : Int32)) (by decide) (q := 15) rfl ?_
    refine g_icmp_ne X0 hx (hb hby d1_15) (by decide) (q := 22) (by decide) (q2 := 18) rfl (fun hb15 => ?_) (fun hb15 => ?_)
    · refine g_getS X0 hx hZ hown (hw _ (List.mem_of_getElem? (i := 39) rfl)) Via.refl e0 SS (hb hby d1_22) (q := 25) rfl fun T1 X1 e1 => ?_
      exact g_retA X1 hx hret hlk (hb hby d1_25) rfl rfl rfl ⟨(by rw [← hr]; simp only [own_kind, if_neg hb8, if_neg hb15]), rfl, e1⟩ (Nat.le_of_ble_eq_true rfl) (Nat.le_of_ble_eq_true rfl)
    · refine g_getS X0 hx hZ hown (hw _ (List.mem_of_getElem? (i := 5) rfl)) Via.refl e0 SR (hb hby d1_18) (q := 21) rfl fun T2 X2 e2 => ?_
      exact g_retA X2 hx hret hlk (hb hby d1_21) rfl rfl rfl ⟨(by rw [← hr]; simp only [own_kind, if_neg hb8, if_pos hb15]), rfl, e2⟩ (Nat.le_of_ble_eq_true rfl) (Nat.le_of_ble_eq_true rfl)
  · refine g_aconst_null X0 hx (hb hby d1_11) (q := 12) rfl ?_
    exact g_retA X0 hx hret hlk (hb hby d1_12) rfl rfl rfl ⟨(by rw [← hr]; simp only [own_kind, if_pos hb8]), rfl, e0⟩ (Nat.le_of_ble_eq_true rfl) (Nat.le_of_ble_eq_true rfl)
theorem d3_0 : decode jdk_30_method_1_code 0 = .ok (.aload_n 0, 1) := by decide +kernel
theorem d3_1 : decode jdk_30_method_1_code 1 = .ok (.invokespecial 1, 3) := by decide +kernel
theorem d3_4 : decode jdk_30_method_1_code 4 = .ok (.return_, 1) := by decide +kernel
set_option maxRecDepth 65536 in
set_option maxHeartbeats 40000000 in
theorem rmR (l : Launch) (Z : State) (a0 : Array Value) (hw : ∀ d ∈ tables_1, d.before a0 Z = true) (a : Addr) (h0 : Heap) :
    Con l Z h0 (⟨"java/lang/Record", "<init>", "()V"⟩ : MethodName) jdk_30_method_1_code 1 none ({ frames := 1, cells := 0, slots := 0, locals := 12 } : Room) #[(.ref a)] (Pur none h0) := by
  refine con_of (plainFor_of_name pn_1) (Ls := #[.val (.ref a)]) (fun m => by first | rfl | (simp [entryFrame, mkF, argsToLocals, Value.category]; done)) ?_
  intro p e s m below meth c s₁ hx hZ hby hml hret hlk hnm hown X0 e0
  refine g_aloadN X0 hx (hb hby d3_0) (v := (.ref a)) rfl rfl (q := 1) rfl ?_
  refine g_initO X0 hx hZ hown (hw _ (List.mem_of_getElem? (i := 19) rfl)) (hw _ (List.mem_of_getElem? (i := 20) rfl)) (hw _ (List.mem_of_getElem? (i := 21) rfl)) e0 (by exact hml.symm) (hb hby d3_1) (Nat.le_of_ble_eq_true rfl) (Nat.le_of_ble_eq_true rfl) (q := 4) rfl fun T3 X3 e3 => ?_
  exact g_retV X3 hx hret hlk (hb hby d3_4) ⟨rfl, rfl, e3⟩ (Nat.le_of_ble_eq_true rfl) (Nat.le_of_ble_eq_true rfl)
theorem d2_0 : decode prog_66_method_1_code 0 = .ok (.aload_n 0, 1) := by decide +kernel
theorem d2_1 : decode prog_66_method_1_code 1 = .ok (.invokespecial 1, 3) := by decide +kernel
theorem d2_4 : decode prog_66_method_1_code 4 = .ok (.aload_n 0, 1) := by decide +kernel
theorem d2_5 : decode prog_66_method_1_code 5 = .ok (.iload_n 1, 1) := by decide +kernel
theorem d2_6 : decode prog_66_method_1_code 6 = .ok (.putfield 7, 3) := by decide +kernel
theorem d2_9 : decode prog_66_method_1_code 9 = .ok (.aload_n 0, 1) := by decide +kernel
theorem d2_10 : decode prog_66_method_1_code 10 = .ok (.aload_n 2, 1) := by decide +kernel
theorem d2_11 : decode prog_66_method_1_code 11 = .ok (.putfield 13, 3) := by decide +kernel
theorem d2_14 : decode prog_66_method_1_code 14 = .ok (.return_, 1) := by decide +kernel
set_option maxRecDepth 65536 in
set_option maxHeartbeats 40000000 in
theorem rmC (l : Launch) (Z : State) (a0 : Array Value) (hw : ∀ d ∈ tables_1, d.before a0 Z = true) (b : Addr) (mi : Int32) (ve : Value) (hv : ve.isRef = true) (h0 : Heap) (n0 : Nat) (hge : n0 ≤ b) (E0 : Exa Z h0 b "com/example/skyledger/skyledger/TimeOfDay") (F0 : Fld Z h0 b "com/example/skyledger/skyledger/TimeOfDay" "minutes" "I" (.int (0 : Int32))) (F1 : Fld Z h0 b "com/example/skyledger/skyledger/TimeOfDay" "event" "Lcom/example/skyledger/skyledger/SolarEvent;" .null) :
    Con l Z h0 (⟨"com/example/skyledger/skyledger/TimeOfDay", "<init>", "(ILcom/example/skyledger/skyledger/SolarEvent;)V"⟩ : MethodName) prog_66_method_1_code 3 none ({ frames := 2, cells := 0, slots := 0, locals := 24 } : Room) #[(.ref b), (.int mi), ve] (fun v h L => v = none ∧ Fr n0 L ∧ Keep h0 h [b] ∧ Exa Z h b "com/example/skyledger/skyledger/TimeOfDay" ∧ Fld Z h b "com/example/skyledger/skyledger/TimeOfDay" "minutes" "I" (.int mi) ∧ Fld Z h b "com/example/skyledger/skyledger/TimeOfDay" "event" "Lcom/example/skyledger/skyledger/SolarEvent;" ve) := by
  refine con_of (plainFor_of_name pn_2) (Ls := #[.val (.ref b), .val (.int mi), .val ve]) (fun m => by cases ve <;> first | (simp [Value.isRef] at hv; done) | rfl | (simp [entryFrame, mkF, argsToLocals, Value.category]; done)) ?_
  intro p e s m below meth c s₁ hx hZ hby hml hret hlk hnm hown X0 e0
  refine g_aloadN X0 hx (hb hby d2_0) (v := (.ref b)) rfl rfl (q := 1) rfl ?_
  refine g_callI X0 hx hZ hown rfl (hw _ (List.mem_of_getElem? (i := 14) rfl)) (hw _ (List.mem_of_getElem? (i := 15) rfl)) (hw _ (List.mem_of_getElem? (i := 18) rfl)) (hw _ (List.mem_of_getElem? (i := 17) rfl)) (by decide) e0 (b := b) (rmR l Z a0 hw b h0) (by exact hml.symm) (argsL := []) (rest := []) rfl rfl pd_0 rfl (Nat.le_of_ble_eq_true rfl) (Nat.le_of_ble_eq_true rfl) (Nat.le_of_ble_eq_true rfl) (Nat.le_of_ble_eq_true rfl) (hb hby d2_1) (q := 4) rfl (g_pure rfl rfl fun T4 X4 e4 => ?_)
  show Go p e below _ (T4.setTop (mkF m 4 #[.val (.ref b), .val (.int mi), .val ve] []))
  refine g_aloadN X4 hx (hb hby d2_4) (v := (.ref b)) rfl rfl (q := 5) rfl ?_
  refine g_iloadN X4 hx (hb hby d2_5) (v := mi) rfl (q := 6) rfl ?_
  refine g_putF X4 hx hZ hown (hw _ (List.mem_of_getElem? (i := 22) rfl)) Via.refl e4 F0 E0 (Or.inr ⟨(hw _ (List.mem_of_getElem? (i := 23) rfl)), rfl, hnm⟩) (hw _ (List.mem_of_getElem? (i := 9) rfl)) (ty := .int) (by decide) rfl rfl (hb hby d2_6) (q := 9) rfl fun T5 h5 X5 e5 W5 => ?_
  have fw5 := F0.same W5
  have N5 := Fr.snoc X5 (Fr.nil n0) hge
  have kp_5 := (Keep.refl h0 [b]).wr W5 (Or.inl (List.mem_of_getElem? (i := 0) rfl))
  have f6 := (E0.wr W5)
  have f7 := (F1.other W5 (Or.inr (slot_ne (Or.inr (hw _ (List.mem_of_getElem? (i := 25) rfl))) (Or.inr (hw _ (List.mem_of_getElem? (i := 23) rfl))) (by decide) (t := (.object "com/example/skyledger/skyledger/SolarEvent")) (t' := .int) (by decide) (by decide))))
  refine g_aloadN X5 hx (hb hby d2_9) (v := (.ref b)) rfl rfl (q := 10) rfl ?_
  refine g_aloadN X5 hx (hb hby d2_10) (v := ve) rfl hv (q := 11) rfl ?_
  refine g_putF X5 hx hZ hown (hw _ (List.mem_of_getElem? (i := 24) rfl)) Via.refl e5 f7 f6 (Or.inr ⟨(hw _ (List.mem_of_getElem? (i := 25) rfl)), rfl, hnm⟩) (hw _ (List.mem_of_getElem? (i := 9) rfl)) (ty := (.object "com/example/skyledger/skyledger/SolarEvent")) (by decide) (own_nar hv) (own_fit hv) (hb hby d2_11) (q := 14) rfl fun T8 h8 X8 e8 W8 => ?_
  have fw8 := f7.same W8
  have N8 := Fr.snoc X8 N5 hge
  have kp_8 := kp_5.wr W8 (Or.inl (List.mem_of_getElem? (i := 0) rfl))
  have f9 := (f6.wr W8)
  have f10 := (fw5.other W8 (Or.inr (slot_ne (Or.inr (hw _ (List.mem_of_getElem? (i := 23) rfl))) (Or.inr (hw _ (List.mem_of_getElem? (i := 25) rfl))) (by decide) (t := .int) (t' := (.object "com/example/skyledger/skyledger/SolarEvent")) (by decide) (by decide))))
  exact g_retV X8 hx hret hlk (hb hby d2_14) ⟨rfl, N8, by rw [e8]; exact kp_8, by rw [e8]; exact f9, by rw [e8]; exact f10, by rw [e8]; exact fw8⟩ (Nat.le_of_ble_eq_true rfl) (Nat.le_of_ble_eq_true rfl)
theorem d6_0 : decode prog_66_method_8_code 0 = .ok (.aload_n 0, 1) := by decide +kernel
theorem d6_1 : decode prog_66_method_8_code 1 = .ok (.getfield 13, 3) := by decide +kernel
theorem d6_4 : decode prog_66_method_8_code 4 = .ok (.areturn, 1) := by decide +kernel
set_option maxRecDepth 65536 in
set_option maxHeartbeats 40000000 in
theorem rmE (l : Launch) (Z : State) (a0 : Array Value) (hw : ∀ d ∈ tables_1, d.before a0 Z = true) (a : Addr) (ve : Value) (hv : ve.isRef = true) (h0 : Heap) (FE : Fld Z h0 a "com/example/skyledger/skyledger/TimeOfDay" "event" "Lcom/example/skyledger/skyledger/SolarEvent;" ve) :
    Con l Z h0 (⟨"com/example/skyledger/skyledger/TimeOfDay", "event", "()Lcom/example/skyledger/skyledger/SolarEvent;"⟩ : MethodName) prog_66_method_8_code 1 (some (.object "com/example/skyledger/skyledger/SolarEvent")) ({ frames := 0, cells := 0, slots := 0, locals := 0 } : Room) #[(.ref a)] (Pur (some ve) h0) := by
  refine con_of (plainFor_of_name pn_2) (Ls := #[.val (.ref a)]) (fun m => by first | rfl | (simp [entryFrame, mkF, argsToLocals, Value.category]; done)) ?_
  intro p e s m below meth c s₁ hx hZ hby hml hret hlk hnm hown X0 e0
  refine g_aloadN X0 hx (hb hby d6_0) (v := (.ref a)) rfl rfl (q := 1) rfl ?_
  refine g_getF X0 hx hZ hown (hw _ (List.mem_of_getElem? (i := 24) rfl)) Via.refl e0 FE (hb hby d6_1) (q := 4) rfl fun T11 X11 e11 => ?_
  exact g_retA X11 hx hret hlk (hb hby d6_4) rfl hv (own_nar hv) ⟨rfl, rfl, e11⟩ (Nat.le_of_ble_eq_true rfl) (Nat.le_of_ble_eq_true rfl)
theorem d8_0 : decode prog_66_method_7_code 0 = .ok (.aload_n 0, 1) := by decide +kernel
theorem d8_1 : decode prog_66_method_7_code 1 = .ok (.getfield 7, 3) := by decide +kernel
theorem d8_4 : decode prog_66_method_7_code 4 = .ok (.ireturn, 1) := by decide +kernel
set_option maxRecDepth 65536 in
set_option maxHeartbeats 40000000 in
theorem rmM (l : Launch) (Z : State) (a0 : Array Value) (hw : ∀ d ∈ tables_1, d.before a0 Z = true) (a : Addr) (mi : Int32) (h0 : Heap) (FM : Fld Z h0 a "com/example/skyledger/skyledger/TimeOfDay" "minutes" "I" (.int mi)) :
    Con l Z h0 (⟨"com/example/skyledger/skyledger/TimeOfDay", "minutes", "()I"⟩ : MethodName) prog_66_method_7_code 1 (some .int) ({ frames := 0, cells := 0, slots := 0, locals := 0 } : Room) #[(.ref a)] (Pur (some (.int mi)) h0) := by
  refine con_of (plainFor_of_name pn_2) (Ls := #[.val (.ref a)]) (fun m => by first | rfl | (simp [entryFrame, mkF, argsToLocals, Value.category]; done)) ?_
  intro p e s m below meth c s₁ hx hZ hby hml hret hlk hnm hown X0 e0
  refine g_aloadN X0 hx (hb hby d8_0) (v := (.ref a)) rfl rfl (q := 1) rfl ?_
  refine g_getF X0 hx hZ hown (hw _ (List.mem_of_getElem? (i := 22) rfl)) Via.refl e0 FM (hb hby d8_1) (q := 4) rfl fun T12 X12 e12 => ?_
  exact g_retI X12 hx hret hlk (hb hby d8_4) ⟨rfl, rfl, e12⟩ (Nat.le_of_ble_eq_true rfl) (Nat.le_of_ble_eq_true rfl)
theorem d7_0 : decode method_3_code 0 = .ok (.aload_n 0, 1) := by decide +kernel
theorem d7_1 : decode method_3_code 1 = .ok (.getstatic 14, 3) := by decide +kernel
theorem d7_4 : decode method_3_code 4 = .ok (.if_acmp .ne 7, 3) := by decide +kernel
theorem d7_7 : decode method_3_code 7 = .ok (.iconst 1, 1) := by decide +kernel
theorem d7_8 : decode method_3_code 8 = .ok (.goto 4, 3) := by decide +kernel
theorem d7_11 : decode method_3_code 11 = .ok (.iconst 0, 1) := by decide +kernel
theorem d7_12 : decode method_3_code 12 = .ok (.ireturn, 1) := by decide +kernel
set_option maxRecDepth 65536 in
set_option maxHeartbeats 40000000 in
theorem rmRk (l : Launch) (Z : State) (a0 : Array Value) (hw : ∀ d ∈ tables_1, d.before a0 Z = true) (a w2 : Addr) (h0 : Heap) (SS : Sta Z h0 "com/example/skyledger/skyledger/SolarEvent" "SUNSET" "Lcom/example/skyledger/skyledger/SolarEvent;" (.ref w2)) (r : Int32) (hr : (if a = w2 then (1 : Int32) else 0) = r) :
    Con l Z h0 (⟨"com/example/skyledger/skyledger/TimeOfDayCanFollowOnItsDatePinLaw", "rank", "(Lcom/example/skyledger/skyledger/SolarEvent;)I"⟩ : MethodName) method_3_code 1 (some .int) ({ frames := 0, cells := 0, slots := 0, locals := 0 } : Room) #[(.ref a)] (Pur (some (.int r)) h0) := by
  refine con_of (plainFor_of_name pn_0) (Ls := #[.val (.ref a)]) (fun m => by first | rfl | (simp [entryFrame, mkF, argsToLocals, Value.category]; done)) ?_
  intro p e s m below meth c s₁ hx hZ hby hml hret hlk hnm hown X0 e0
  refine g_aloadN X0 hx (hb hby d7_0) (v := (.ref a)) rfl rfl (q := 1) rfl ?_
  refine g_getS X0 hx hZ hown (hw _ (List.mem_of_getElem? (i := 39) rfl)) Via.refl e0 SS (hb hby d7_1) (q := 4) rfl fun T13 X13 e13 => ?_
  refine g_acmpNe X13 hx rfl rfl (hb hby d7_4) (by decide) (q := 11) (by decide) (q2 := 7) rfl (fun hb4 => ?_) (fun hb4 => ?_)
  · refine g_iconst X13 hx (hb hby d7_11) (n := (0 : Int32)) (by decide) (q := 12) rfl ?_
    exact g_retI X13 hx hret hlk (hb hby d7_12) ⟨(by rw [← hr, if_neg (fun q => hb4 (congrArg Value.ref q))]), rfl, e13⟩ (Nat.le_of_ble_eq_true rfl) (Nat.le_of_ble_eq_true rfl)
  · refine g_iconst X13 hx (hb hby d7_7) (n := (1 : Int32)) (by decide) (q := 8) rfl ?_
    refine g_goto X13 hx (hb hby d7_8) (by decide) (q := 12) (by decide) ?_
    exact g_retI X13 hx hret hlk (hb hby d7_12) ⟨(by rw [← hr, if_pos (Value.ref.inj hb4)]), rfl, e13⟩ (Nat.le_of_ble_eq_true rfl) (Nat.le_of_ble_eq_true rfl)
theorem d5_0 : decode prog_66_method_3_code 0 = .ok (.aload_n 0, 1) := by decide +kernel
theorem d5_1 : decode prog_66_method_3_code 1 = .ok (.getfield 13, 3) := by decide +kernel
theorem d5_4 : decode prog_66_method_3_code 4 = .ok (.ifnonnull 30, 3) := by decide +kernel
theorem d5_7 : decode prog_66_method_3_code 7 = .ok (.aload_n 1, 1) := by decide +kernel
theorem d5_8 : decode prog_66_method_3_code 8 = .ok (.invokevirtual 47, 3) := by decide +kernel
theorem d5_11 : decode prog_66_method_3_code 11 = .ok (.ifnonnull 23, 3) := by decide +kernel
theorem d5_14 : decode prog_66_method_3_code 14 = .ok (.aload_n 0, 1) := by decide +kernel
theorem d5_15 : decode prog_66_method_3_code 15 = .ok (.getfield 7, 3) := by decide +kernel
theorem d5_18 : decode prog_66_method_3_code 18 = .ok (.aload_n 1, 1) := by decide +kernel
theorem d5_19 : decode prog_66_method_3_code 19 = .ok (.invokevirtual 50, 3) := by decide +kernel
theorem d5_22 : decode prog_66_method_3_code 22 = .ok (.if_icmp .le 7, 3) := by decide +kernel
theorem d5_25 : decode prog_66_method_3_code 25 = .ok (.iconst 1, 1) := by decide +kernel
theorem d5_26 : decode prog_66_method_3_code 26 = .ok (.goto 4, 3) := by decide +kernel
theorem d5_29 : decode prog_66_method_3_code 29 = .ok (.iconst 0, 1) := by decide +kernel
theorem d5_30 : decode prog_66_method_3_code 30 = .ok (.istore_n 2, 1) := by decide +kernel
theorem d5_31 : decode prog_66_method_3_code 31 = .ok (.goto 48, 3) := by decide +kernel
theorem d5_34 : decode prog_66_method_3_code 34 = .ok (.aload_n 0, 1) := by decide +kernel
theorem d5_35 : decode prog_66_method_3_code 35 = .ok (.getfield 13, 3) := by decide +kernel
theorem d5_38 : decode prog_66_method_3_code 38 = .ok (.ifnull 39, 3) := by decide +kernel
theorem d5_41 : decode prog_66_method_3_code 41 = .ok (.aload_n 1, 1) := by decide +kernel
theorem d5_42 : decode prog_66_method_3_code 42 = .ok (.invokevirtual 47, 3) := by decide +kernel
theorem d5_45 : decode prog_66_method_3_code 45 = .ok (.ifnull 32, 3) := by decide +kernel
theorem d5_48 : decode prog_66_method_3_code 48 = .ok (.aload_n 1, 1) := by decide +kernel
theorem d5_49 : decode prog_66_method_3_code 49 = .ok (.invokevirtual 47, 3) := by decide +kernel
theorem d5_52 : decode prog_66_method_3_code 52 = .ok (.getstatic 53, 3) := by decide +kernel
theorem d5_55 : decode prog_66_method_3_code 55 = .ok (.if_acmp .ne 17, 3) := by decide +kernel
theorem d5_58 : decode prog_66_method_3_code 58 = .ok (.aload_n 0, 1) := by decide +kernel
theorem d5_59 : decode prog_66_method_3_code 59 = .ok (.getfield 13, 3) := by decide +kernel
theorem d5_62 : decode prog_66_method_3_code 62 = .ok (.getstatic 56, 3) := by decide +kernel
theorem d5_65 : decode prog_66_method_3_code 65 = .ok (.if_acmp .ne 7, 3) := by decide +kernel
theorem d5_68 : decode prog_66_method_3_code 68 = .ok (.iconst 1, 1) := by decide +kernel
theorem d5_69 : decode prog_66_method_3_code 69 = .ok (.goto 4, 3) := by decide +kernel
theorem d5_72 : decode prog_66_method_3_code 72 = .ok (.iconst 0, 1) := by decide +kernel
theorem d5_73 : decode prog_66_method_3_code 73 = .ok (.istore_n 2, 1) := by decide +kernel
theorem d5_74 : decode prog_66_method_3_code 74 = .ok (.goto 5, 3) := by decide +kernel
theorem d5_77 : decode prog_66_method_3_code 77 = .ok (.iconst 1, 1) := by decide +kernel
theorem d5_78 : decode prog_66_method_3_code 78 = .ok (.istore_n 2, 1) := by decide +kernel
theorem d5_79 : decode prog_66_method_3_code 79 = .ok (.iload_n 2, 1) := by decide +kernel
theorem d5_80 : decode prog_66_method_3_code 80 = .ok (.ireturn, 1) := by decide +kernel
set_option maxRecDepth 65536 in
set_option maxHeartbeats 40000000 in
theorem rmF (l : Launch) (Z : State) (a0 : Array Value) (hw : ∀ d ∈ tables_1, d.before a0 Z = true) (a1 a2 w1 w2 : Addr) (me ms : Int32) (ve vs : Value) (nw : ¬ w1 = w2) (hve : ve = .null ∨ ve = .ref w1 ∨ ve = .ref w2) (hvs : vs = .null ∨ vs = .ref w1 ∨ vs = .ref w2) (h0 : Heap) (SR : Sta Z h0 "com/example/skyledger/skyledger/SolarEvent" "SUNRISE" "Lcom/example/skyledger/skyledger/SolarEvent;" (.ref w1)) (SS : Sta Z h0 "com/example/skyledger/skyledger/SolarEvent" "SUNSET" "Lcom/example/skyledger/skyledger/SolarEvent;" (.ref w2)) (E2 : Exa Z h0 a2 "com/example/skyledger/skyledger/TimeOfDay") (F0 : Fld Z h0 a1 "com/example/skyledger/skyledger/TimeOfDay" "minutes" "I" (.int me)) (F1 : Fld Z h0 a1 "com/example/skyledger/skyledger/TimeOfDay" "event" "Lcom/example/skyledger/skyledger/SolarEvent;" ve) (G0 : Fld Z h0 a2 "com/example/skyledger/skyledger/TimeOfDay" "minutes" "I" (.int ms)) (G1 : Fld Z h0 a2 "com/example/skyledger/skyledger/TimeOfDay" "event" "Lcom/example/skyledger/skyledger/SolarEvent;" vs) (r : Int32) (hr : own_can ve vs me ms w1 w2 = r) :
    Con l Z h0 (⟨"com/example/skyledger/skyledger/TimeOfDay", "canFollowOnItsDate", "(Lcom/example/skyledger/skyledger/TimeOfDay;)Z"⟩ : MethodName) prog_66_method_3_code 3 (some .boolean) ({ frames := 1, cells := 0, slots := 0, locals := 16 } : Room) #[(.ref a1), (.ref a2)] (Pur (some (.int r)) h0) := by
  refine con_of (plainFor_of_name pn_2) (Ls := #[.val (.ref a1), .val (.ref a2), .unset]) (fun m => by first | rfl | (simp [entryFrame, mkF, argsToLocals, Value.category]; done)) ?_
  intro p e s m below meth c s₁ hx hZ hby hml hret hlk hnm hown X0 e0
  rcases hve with rfl | rfl | rfl <;> rcases hvs with rfl | rfl | rfl
  · refine g_aloadN X0 hx (hb hby d5_0) (v := (.ref a1)) rfl rfl (q := 1) rfl ?_
    refine g_getF X0 hx hZ hown (hw _ (List.mem_of_getElem? (i := 24) rfl)) Via.refl e0 F1 (hb hby d5_1) (q := 4) rfl fun T14 X14 e14 => ?_
    refine g_ifnonnullN X14 hx (hb hby d5_4) (q := 7) rfl ?_
    refine g_aloadN X14 hx (hb hby d5_7) (v := (.ref a2)) rfl rfl (q := 8) rfl ?_
    refine g_callV X14 hx hZ hown (hw _ (List.mem_of_getElem? (i := 31) rfl)) (hw _ (List.mem_of_getElem? (i := 32) rfl)) (hw _ (List.mem_of_getElem? (i := 34) rfl)) (hw _ (List.mem_of_getElem? (i := 33) rfl)) (hw _ (List.mem_of_getElem? (i := 35) rfl)) (hw _ (List.mem_of_getElem? (i := 10) rfl)) (notFace_of_selects (args := #[]) (mvT hZ (hw _ (List.mem_of_getElem? (i := 34) rfl)))) (by decide) e14 E2 (rmE l Z a0 hw a2 .null rfl h0 G1) (by exact hml.symm) (argsL := []) (rest := []) rfl rfl pd_1 rfl (Nat.le_of_ble_eq_true rfl) (Nat.le_of_ble_eq_true rfl) (Nat.le_of_ble_eq_true rfl) (Nat.le_of_ble_eq_true rfl) (hb hby d5_8) (q := 11) rfl (g_pure rfl rfl fun T15 X15 e15 => ?_)
    show Go p e below _ (T15.setTop (mkF m 11 #[.val (.ref a1), .val (.ref a2), .unset] [.null]))
    refine g_ifnonnullN X15 hx (hb hby d5_11) (q := 14) rfl ?_
    refine g_aloadN X15 hx (hb hby d5_14) (v := (.ref a1)) rfl rfl (q := 15) rfl ?_
    refine g_getF X15 hx hZ hown (hw _ (List.mem_of_getElem? (i := 22) rfl)) Via.refl e15 F0 (hb hby d5_15) (q := 18) rfl fun T16 X16 e16 => ?_
    refine g_aloadN X16 hx (hb hby d5_18) (v := (.ref a2)) rfl rfl (q := 19) rfl ?_
    refine g_callV X16 hx hZ hown (hw _ (List.mem_of_getElem? (i := 43) rfl)) (hw _ (List.mem_of_getElem? (i := 44) rfl)) (hw _ (List.mem_of_getElem? (i := 46) rfl)) (hw _ (List.mem_of_getElem? (i := 45) rfl)) (hw _ (List.mem_of_getElem? (i := 47) rfl)) (hw _ (List.mem_of_getElem? (i := 10) rfl)) (notFace_of_selects (args := #[]) (mvT hZ (hw _ (List.mem_of_getElem? (i := 46) rfl)))) (by decide) e16 E2 (rmM l Z a0 hw a2 ms h0 G0) (by exact hml.symm) (argsL := []) (rest := [(.int me)]) rfl rfl pd_2 rfl (Nat.le_of_ble_eq_true rfl) (Nat.le_of_ble_eq_true rfl) (Nat.le_of_ble_eq_true rfl) (Nat.le_of_ble_eq_true rfl) (hb hby d5_19) (q := 22) rfl (g_pure rfl rfl fun T17 X17 e17 => ?_)
    show Go p e below _ (T17.setTop (mkF m 22 #[.val (.ref a1), .val (.ref a2), .unset] [(.int ms), (.int me)]))
    refine g_icmp_le X17 hx (hb hby d5_22) (by decide) (q := 29) (by decide) (q2 := 25) rfl (fun hb22 => ?_) (fun hb22 => ?_)
    · refine g_iconst X17 hx (hb hby d5_29) (n := (0 : Int32)) (by decide) (q := 30) rfl ?_
      refine g_istoreN X17 hx (hb hby d5_30) (L' := #[.val (.ref a1), .val (.ref a2), .val (.int (0 : Int32))]) rfl (q := 31) rfl ?_
      refine g_goto X17 hx (hb hby d5_31) (by decide) (q := 79) (by decide) ?_
      refine g_iloadN X17 hx (hb hby d5_79) (v := (0 : Int32)) rfl (q := 80) rfl ?_
      exact g_retB X17 hx hret hlk (hb hby d5_80) (by decide) ⟨(by rw [← hr]; simp [own_can, nw, (show ¬ w2 = w1 from fun q => nw q.symm), hb22]), rfl, e17⟩ (Nat.le_of_ble_eq_true rfl) (Nat.le_of_ble_eq_true rfl)
    · refine g_iconst X17 hx (hb hby d5_25) (n := (1 : Int32)) (by decide) (q := 26) rfl ?_
      refine g_goto X17 hx (hb hby d5_26) (by decide) (q := 30) (by decide) ?_
      refine g_istoreN X17 hx (hb hby d5_30) (L' := #[.val (.ref a1), .val (.ref a2), .val (.int (1 : Int32))]) rfl (q := 31) rfl ?_
      refine g_goto X17 hx (hb hby d5_31) (by decide) (q := 79) (by decide) ?_
      refine g_iloadN X17 hx (hb hby d5_79) (v := (1 : Int32)) rfl (q := 80) rfl ?_
      exact g_retB X17 hx hret hlk (hb hby d5_80) (by decide) ⟨(by rw [← hr]; simp [own_can, nw, (show ¬ w2 = w1 from fun q => nw q.symm), hb22]), rfl, e17⟩ (Nat.le_of_ble_eq_true rfl) (Nat.le_of_ble_eq_true rfl)
  · refine g_aloadN X0 hx (hb hby d5_0) (v := (.ref a1)) rfl rfl (q := 1) rfl ?_
    refine g_getF X0 hx hZ hown (hw _ (List.mem_of_getElem? (i := 24) rfl)) Via.refl e0 F1 (hb hby d5_1) (q := 4) rfl fun T18 X18 e18 => ?_
    refine g_ifnonnullN X18 hx (hb hby d5_4) (q := 7) rfl ?_
    refine g_aloadN X18 hx (hb hby d5_7) (v := (.ref a2)) rfl rfl (q := 8) rfl ?_
    refine g_callV X18 hx hZ hown (hw _ (List.mem_of_getElem? (i := 31) rfl)) (hw _ (List.mem_of_getElem? (i := 32) rfl)) (hw _ (List.mem_of_getElem? (i := 34) rfl)) (hw _ (List.mem_of_getElem? (i := 33) rfl)) (hw _ (List.mem_of_getElem? (i := 35) rfl)) (hw _ (List.mem_of_getElem? (i := 10) rfl)) (notFace_of_selects (args := #[]) (mvT hZ (hw _ (List.mem_of_getElem? (i := 34) rfl)))) (by decide) e18 E2 (rmE l Z a0 hw a2 (.ref w1) rfl h0 G1) (by exact hml.symm) (argsL := []) (rest := []) rfl rfl pd_1 rfl (Nat.le_of_ble_eq_true rfl) (Nat.le_of_ble_eq_true rfl) (Nat.le_of_ble_eq_true rfl) (Nat.le_of_ble_eq_true rfl) (hb hby d5_8) (q := 11) rfl (g_pure rfl rfl fun T19 X19 e19 => ?_)
    show Go p e below _ (T19.setTop (mkF m 11 #[.val (.ref a1), .val (.ref a2), .unset] [(.ref w1)]))
    refine g_ifnonnullY X19 hx (hb hby d5_11) (by decide) (q := 34) (by decide) ?_
    refine g_aloadN X19 hx (hb hby d5_34) (v := (.ref a1)) rfl rfl (q := 35) rfl ?_
    refine g_getF X19 hx hZ hown (hw _ (List.mem_of_getElem? (i := 24) rfl)) Via.refl e19 F1 (hb hby d5_35) (q := 38) rfl fun T20 X20 e20 => ?_
    refine g_ifnullY X20 hx (hb hby d5_38) (by decide) (q := 77) (by decide) ?_
    refine g_iconst X20 hx (hb hby d5_77) (n := (1 : Int32)) (by decide) (q := 78) rfl ?_
    refine g_istoreN X20 hx (hb hby d5_78) (L' := #[.val (.ref a1), .val (.ref a2), .val (.int (1 : Int32))]) rfl (q := 79) rfl ?_
    refine g_iloadN X20 hx (hb hby d5_79) (v := (1 : Int32)) rfl (q := 80) rfl ?_
    exact g_retB X20 hx hret hlk (hb hby d5_80) (by decide) ⟨(by rw [← hr]; simp [own_can, nw, (show ¬ w2 = w1 from fun q => nw q.symm)]), rfl, e20⟩ (Nat.le_of_ble_eq_true rfl) (Nat.le_of_ble_eq_true rfl)
  · refine g_aloadN X0 hx (hb hby d5_0) (v := (.ref a1)) rfl rfl (q := 1) rfl ?_
    refine g_getF X0 hx hZ hown (hw _ (List.mem_of_getElem? (i := 24) rfl)) Via.refl e0 F1 (hb hby d5_1) (q := 4) rfl fun T21 X21 e21 => ?_
    refine g_ifnonnullN X21 hx (hb hby d5_4) (q := 7) rfl ?_
    refine g_aloadN X21 hx (hb hby d5_7) (v := (.ref a2)) rfl rfl (q := 8) rfl ?_
    refine g_callV X21 hx hZ hown (hw _ (List.mem_of_getElem? (i := 31) rfl)) (hw _ (List.mem_of_getElem? (i := 32) rfl)) (hw _ (List.mem_of_getElem? (i := 34) rfl)) (hw _ (List.mem_of_getElem? (i := 33) rfl)) (hw _ (List.mem_of_getElem? (i := 35) rfl)) (hw _ (List.mem_of_getElem? (i := 10) rfl)) (notFace_of_selects (args := #[]) (mvT hZ (hw _ (List.mem_of_getElem? (i := 34) rfl)))) (by decide) e21 E2 (rmE l Z a0 hw a2 (.ref w2) rfl h0 G1) (by exact hml.symm) (argsL := []) (rest := []) rfl rfl pd_1 rfl (Nat.le_of_ble_eq_true rfl) (Nat.le_of_ble_eq_true rfl) (Nat.le_of_ble_eq_true rfl) (Nat.le_of_ble_eq_true rfl) (hb hby d5_8) (q := 11) rfl (g_pure rfl rfl fun T22 X22 e22 => ?_)
    show Go p e below _ (T22.setTop (mkF m 11 #[.val (.ref a1), .val (.ref a2), .unset] [(.ref w2)]))
    refine g_ifnonnullY X22 hx (hb hby d5_11) (by decide) (q := 34) (by decide) ?_
    refine g_aloadN X22 hx (hb hby d5_34) (v := (.ref a1)) rfl rfl (q := 35) rfl ?_
    refine g_getF X22 hx hZ hown (hw _ (List.mem_of_getElem? (i := 24) rfl)) Via.refl e22 F1 (hb hby d5_35) (q := 38) rfl fun T23 X23 e23 => ?_
    refine g_ifnullY X23 hx (hb hby d5_38) (by decide) (q := 77) (by decide) ?_
    refine g_iconst X23 hx (hb hby d5_77) (n := (1 : Int32)) (by decide) (q := 78) rfl ?_
    refine g_istoreN X23 hx (hb hby d5_78) (L' := #[.val (.ref a1), .val (.ref a2), .val (.int (1 : Int32))]) rfl (q := 79) rfl ?_
    refine g_iloadN X23 hx (hb hby d5_79) (v := (1 : Int32)) rfl (q := 80) rfl ?_
    exact g_retB X23 hx hret hlk (hb hby d5_80) (by decide) ⟨(by rw [← hr]; simp [own_can, nw, (show ¬ w2 = w1 from fun q => nw q.symm)]), rfl, e23⟩ (Nat.le_of_ble_eq_true rfl) (Nat.le_of_ble_eq_true rfl)
  · refine g_aloadN X0 hx (hb hby d5_0) (v := (.ref a1)) rfl rfl (q := 1) rfl ?_
    refine g_getF X0 hx hZ hown (hw _ (List.mem_of_getElem? (i := 24) rfl)) Via.refl e0 F1 (hb hby d5_1) (q := 4) rfl fun T24 X24 e24 => ?_
    refine g_ifnonnullY X24 hx (hb hby d5_4) (by decide) (q := 34) (by decide) ?_
    refine g_aloadN X24 hx (hb hby d5_34) (v := (.ref a1)) rfl rfl (q := 35) rfl ?_
    refine g_getF X24 hx hZ hown (hw _ (List.mem_of_getElem? (i := 24) rfl)) Via.refl e24 F1 (hb hby d5_35) (q := 38) rfl fun T25 X25 e25 => ?_
    refine g_ifnullN X25 hx (hb hby d5_38) (q := 41) rfl ?_
    refine g_aloadN X25 hx (hb hby d5_41) (v := (.ref a2)) rfl rfl (q := 42) rfl ?_
    refine g_callV X25 hx hZ hown (hw _ (List.mem_of_getElem? (i := 31) rfl)) (hw _ (List.mem_of_getElem? (i := 32) rfl)) (hw _ (List.mem_of_getElem? (i := 34) rfl)) (hw _ (List.mem_of_getElem? (i := 33) rfl)) (hw _ (List.mem_of_getElem? (i := 35) rfl)) (hw _ (List.mem_of_getElem? (i := 10) rfl)) (notFace_of_selects (args := #[]) (mvT hZ (hw _ (List.mem_of_getElem? (i := 34) rfl)))) (by decide) e25 E2 (rmE l Z a0 hw a2 .null rfl h0 G1) (by exact hml.symm) (argsL := []) (rest := []) rfl rfl pd_1 rfl (Nat.le_of_ble_eq_true rfl) (Nat.le_of_ble_eq_true rfl) (Nat.le_of_ble_eq_true rfl) (Nat.le_of_ble_eq_true rfl) (hb hby d5_42) (q := 45) rfl (g_pure rfl rfl fun T26 X26 e26 => ?_)
    show Go p e below _ (T26.setTop (mkF m 45 #[.val (.ref a1), .val (.ref a2), .unset] [.null]))
    refine g_ifnullY X26 hx (hb hby d5_45) (by decide) (q := 77) (by decide) ?_
    refine g_iconst X26 hx (hb hby d5_77) (n := (1 : Int32)) (by decide) (q := 78) rfl ?_
    refine g_istoreN X26 hx (hb hby d5_78) (L' := #[.val (.ref a1), .val (.ref a2), .val (.int (1 : Int32))]) rfl (q := 79) rfl ?_
    refine g_iloadN X26 hx (hb hby d5_79) (v := (1 : Int32)) rfl (q := 80) rfl ?_
    exact g_retB X26 hx hret hlk (hb hby d5_80) (by decide) ⟨(by rw [← hr]; simp [own_can, nw, (show ¬ w2 = w1 from fun q => nw q.symm)]), rfl, e26⟩ (Nat.le_of_ble_eq_true rfl) (Nat.le_of_ble_eq_true rfl)
  · refine g_aloadN X0 hx (hb hby d5_0) (v := (.ref a1)) rfl rfl (q := 1) rfl ?_
    refine g_getF X0 hx hZ hown (hw _ (List.mem_of_getElem? (i := 24) rfl)) Via.refl e0 F1 (hb hby d5_1) (q := 4) rfl fun T27 X27 e27 => ?_
    refine g_ifnonnullY X27 hx (hb hby d5_4) (by decide) (q := 34) (by decide) ?_
    refine g_aloadN X27 hx (hb hby d5_34) (v := (.ref a1)) rfl rfl (q := 35) rfl ?_
    refine g_getF X27 hx hZ hown (hw _ (List.mem_of_getElem? (i := 24) rfl)) Via.refl e27 F1 (hb hby d5_35) (q := 38) rfl fun T28 X28 e28 => ?_
    refine g_ifnullN X28 hx (hb hby d5_38) (q := 41) rfl ?_
    refine g_aloadN X28 hx (hb hby d5_41) (v := (.ref a2)) rfl rfl (q := 42) rfl ?_
    refine g_callV X28 hx hZ hown (hw _ (List.mem_of_getElem? (i := 31) rfl)) (hw _ (List.mem_of_getElem? (i := 32) rfl)) (hw _ (List.mem_of_getElem? (i := 34) rfl)) (hw _ (List.mem_of_getElem? (i := 33) rfl)) (hw _ (List.mem_of_getElem? (i := 35) rfl)) (hw _ (List.mem_of_getElem? (i := 10) rfl)) (notFace_of_selects (args := #[]) (mvT hZ (hw _ (List.mem_of_getElem? (i := 34) rfl)))) (by decide) e28 E2 (rmE l Z a0 hw a2 (.ref w1) rfl h0 G1) (by exact hml.symm) (argsL := []) (rest := []) rfl rfl pd_1 rfl (Nat.le_of_ble_eq_true rfl) (Nat.le_of_ble_eq_true rfl) (Nat.le_of_ble_eq_true rfl) (Nat.le_of_ble_eq_true rfl) (hb hby d5_42) (q := 45) rfl (g_pure rfl rfl fun T29 X29 e29 => ?_)
    show Go p e below _ (T29.setTop (mkF m 45 #[.val (.ref a1), .val (.ref a2), .unset] [(.ref w1)]))
    refine g_ifnullN X29 hx (hb hby d5_45) (q := 48) rfl ?_
    refine g_aloadN X29 hx (hb hby d5_48) (v := (.ref a2)) rfl rfl (q := 49) rfl ?_
    refine g_callV X29 hx hZ hown (hw _ (List.mem_of_getElem? (i := 31) rfl)) (hw _ (List.mem_of_getElem? (i := 32) rfl)) (hw _ (List.mem_of_getElem? (i := 34) rfl)) (hw _ (List.mem_of_getElem? (i := 33) rfl)) (hw _ (List.mem_of_getElem? (i := 35) rfl)) (hw _ (List.mem_of_getElem? (i := 10) rfl)) (notFace_of_selects (args := #[]) (mvT hZ (hw _ (List.mem_of_getElem? (i := 34) rfl)))) (by decide) e29 E2 (rmE l Z a0 hw a2 (.ref w1) rfl h0 G1) (by exact hml.symm) (argsL := []) (rest := []) rfl rfl pd_1 rfl (Nat.le_of_ble_eq_true rfl) (Nat.le_of_ble_eq_true rfl) (Nat.le_of_ble_eq_true rfl) (Nat.le_of_ble_eq_true rfl) (hb hby d5_49) (q := 52) rfl (g_pure rfl rfl fun T30 X30 e30 => ?_)
    show Go p e below _ (T30.setTop (mkF m 52 #[.val (.ref a1), .val (.ref a2), .unset] [(.ref w1)]))
    refine g_getS X30 hx hZ hown (hw _ (List.mem_of_getElem? (i := 41) rfl)) Via.refl e30 SR (hb hby d5_52) (q := 55) rfl fun T31 X31 e31 => ?_
    refine g_acmpNe X31 hx rfl rfl (hb hby d5_55) (by decide) (q := 72) (by decide) (q2 := 58) rfl (fun hb55 => absurd hb55 (by simp)) (fun hb55 => ?_)
    refine g_aloadN X31 hx (hb hby d5_58) (v := (.ref a1)) rfl rfl (q := 59) rfl ?_
    refine g_getF X31 hx hZ hown (hw _ (List.mem_of_getElem? (i := 24) rfl)) Via.refl e31 F1 (hb hby d5_59) (q := 62) rfl fun T32 X32 e32 => ?_
    refine g_getS X32 hx hZ hown (hw _ (List.mem_of_getElem? (i := 42) rfl)) Via.refl e32 SS (hb hby d5_62) (q := 65) rfl fun T33 X33 e33 => ?_
    refine g_acmpNe X33 hx rfl rfl (hb hby d5_65) (by decide) (q := 72) (by decide) (q2 := 68) rfl (fun hb65 => ?_) (fun hb65 => absurd hb65 (own_noref nw))
    refine g_iconst X33 hx (hb hby d5_72) (n := (0 : Int32)) (by decide) (q := 73) rfl ?_
    refine g_istoreN X33 hx (hb hby d5_73) (L' := #[.val (.ref a1), .val (.ref a2), .val (.int (0 : Int32))]) rfl (q := 74) rfl ?_
    refine g_goto X33 hx (hb hby d5_74) (by decide) (q := 79) (by decide) ?_
    refine g_iloadN X33 hx (hb hby d5_79) (v := (0 : Int32)) rfl (q := 80) rfl ?_
    exact g_retB X33 hx hret hlk (hb hby d5_80) (by decide) ⟨(by rw [← hr]; simp [own_can, nw, (show ¬ w2 = w1 from fun q => nw q.symm)]), rfl, e33⟩ (Nat.le_of_ble_eq_true rfl) (Nat.le_of_ble_eq_true rfl)
  · refine g_aloadN X0 hx (hb hby d5_0) (v := (.ref a1)) rfl rfl (q := 1) rfl ?_
    refine g_getF X0 hx hZ hown (hw _ (List.mem_of_getElem? (i := 24) rfl)) Via.refl e0 F1 (hb hby d5_1) (q := 4) rfl fun T34 X34 e34 => ?_
    refine g_ifnonnullY X34 hx (hb hby d5_4) (by decide) (q := 34) (by decide) ?_
    refine g_aloadN X34 hx (hb hby d5_34) (v := (.ref a1)) rfl rfl (q := 35) rfl ?_
    refine g_getF X34 hx hZ hown (hw _ (List.mem_of_getElem? (i := 24) rfl)) Via.refl e34 F1 (hb hby d5_35) (q := 38) rfl fun T35 X35 e35 => ?_
    refine g_ifnullN X35 hx (hb hby d5_38) (q := 41) rfl ?_
    refine g_aloadN X35 hx (hb hby d5_41) (v := (.ref a2)) rfl rfl (q := 42) rfl ?_
    refine g_callV X35 hx hZ hown (hw _ (List.mem_of_getElem? (i := 31) rfl)) (hw _ (List.mem_of_getElem? (i := 32) rfl)) (hw _ (List.mem_of_getElem? (i := 34) rfl)) (hw _ (List.mem_of_getElem? (i := 33) rfl)) (hw _ (List.mem_of_getElem? (i := 35) rfl)) (hw _ (List.mem_of_getElem? (i := 10) rfl)) (notFace_of_selects (args := #[]) (mvT hZ (hw _ (List.mem_of_getElem? (i := 34) rfl)))) (by decide) e35 E2 (rmE l Z a0 hw a2 (.ref w2) rfl h0 G1) (by exact hml.symm) (argsL := []) (rest := []) rfl rfl pd_1 rfl (Nat.le_of_ble_eq_true rfl) (Nat.le_of_ble_eq_true rfl) (Nat.le_of_ble_eq_true rfl) (Nat.le_of_ble_eq_true rfl) (hb hby d5_42) (q := 45) rfl (g_pure rfl rfl fun T36 X36 e36 => ?_)
    show Go p e below _ (T36.setTop (mkF m 45 #[.val (.ref a1), .val (.ref a2), .unset] [(.ref w2)]))
    refine g_ifnullN X36 hx (hb hby d5_45) (q := 48) rfl ?_
    refine g_aloadN X36 hx (hb hby d5_48) (v := (.ref a2)) rfl rfl (q := 49) rfl ?_
    refine g_callV X36 hx hZ hown (hw _ (List.mem_of_getElem? (i := 31) rfl)) (hw _ (List.mem_of_getElem? (i := 32) rfl)) (hw _ (List.mem_of_getElem? (i := 34) rfl)) (hw _ (List.mem_of_getElem? (i := 33) rfl)) (hw _ (List.mem_of_getElem? (i := 35) rfl)) (hw _ (List.mem_of_getElem? (i := 10) rfl)) (notFace_of_selects (args := #[]) (mvT hZ (hw _ (List.mem_of_getElem? (i := 34) rfl)))) (by decide) e36 E2 (rmE l Z a0 hw a2 (.ref w2) rfl h0 G1) (by exact hml.symm) (argsL := []) (rest := []) rfl rfl pd_1 rfl (Nat.le_of_ble_eq_true rfl) (Nat.le_of_ble_eq_true rfl) (Nat.le_of_ble_eq_true rfl) (Nat.le_of_ble_eq_true rfl) (hb hby d5_49) (q := 52) rfl (g_pure rfl rfl fun T37 X37 e37 => ?_)
    show Go p e below _ (T37.setTop (mkF m 52 #[.val (.ref a1), .val (.ref a2), .unset] [(.ref w2)]))
    refine g_getS X37 hx hZ hown (hw _ (List.mem_of_getElem? (i := 41) rfl)) Via.refl e37 SR (hb hby d5_52) (q := 55) rfl fun T38 X38 e38 => ?_
    refine g_acmpNe X38 hx rfl rfl (hb hby d5_55) (by decide) (q := 72) (by decide) (q2 := 58) rfl (fun hb55 => ?_) (fun hb55 => absurd hb55 (own_noref (fun q => nw q.symm)))
    refine g_iconst X38 hx (hb hby d5_72) (n := (0 : Int32)) (by decide) (q := 73) rfl ?_
    refine g_istoreN X38 hx (hb hby d5_73) (L' := #[.val (.ref a1), .val (.ref a2), .val (.int (0 : Int32))]) rfl (q := 74) rfl ?_
    refine g_goto X38 hx (hb hby d5_74) (by decide) (q := 79) (by decide) ?_
    refine g_iloadN X38 hx (hb hby d5_79) (v := (0 : Int32)) rfl (q := 80) rfl ?_
    exact g_retB X38 hx hret hlk (hb hby d5_80) (by decide) ⟨(by rw [← hr]; simp [own_can, nw, (show ¬ w2 = w1 from fun q => nw q.symm)]), rfl, e38⟩ (Nat.le_of_ble_eq_true rfl) (Nat.le_of_ble_eq_true rfl)
  · refine g_aloadN X0 hx (hb hby d5_0) (v := (.ref a1)) rfl rfl (q := 1) rfl ?_
    refine g_getF X0 hx hZ hown (hw _ (List.mem_of_getElem? (i := 24) rfl)) Via.refl e0 F1 (hb hby d5_1) (q := 4) rfl fun T39 X39 e39 => ?_
    refine g_ifnonnullY X39 hx (hb hby d5_4) (by decide) (q := 34) (by decide) ?_
    refine g_aloadN X39 hx (hb hby d5_34) (v := (.ref a1)) rfl rfl (q := 35) rfl ?_
    refine g_getF X39 hx hZ hown (hw _ (List.mem_of_getElem? (i := 24) rfl)) Via.refl e39 F1 (hb hby d5_35) (q := 38) rfl fun T40 X40 e40 => ?_
    refine g_ifnullN X40 hx (hb hby d5_38) (q := 41) rfl ?_
    refine g_aloadN X40 hx (hb hby d5_41) (v := (.ref a2)) rfl rfl (q := 42) rfl ?_
    refine g_callV X40 hx hZ hown (hw _ (List.mem_of_getElem? (i := 31) rfl)) (hw _ (List.mem_of_getElem? (i := 32) rfl)) (hw _ (List.mem_of_getElem? (i := 34) rfl)) (hw _ (List.mem_of_getElem? (i := 33) rfl)) (hw _ (List.mem_of_getElem? (i := 35) rfl)) (hw _ (List.mem_of_getElem? (i := 10) rfl)) (notFace_of_selects (args := #[]) (mvT hZ (hw _ (List.mem_of_getElem? (i := 34) rfl)))) (by decide) e40 E2 (rmE l Z a0 hw a2 .null rfl h0 G1) (by exact hml.symm) (argsL := []) (rest := []) rfl rfl pd_1 rfl (Nat.le_of_ble_eq_true rfl) (Nat.le_of_ble_eq_true rfl) (Nat.le_of_ble_eq_true rfl) (Nat.le_of_ble_eq_true rfl) (hb hby d5_42) (q := 45) rfl (g_pure rfl rfl fun T41 X41 e41 => ?_)
    show Go p e below _ (T41.setTop (mkF m 45 #[.val (.ref a1), .val (.ref a2), .unset] [.null]))
    refine g_ifnullY X41 hx (hb hby d5_45) (by decide) (q := 77) (by decide) ?_
    refine g_iconst X41 hx (hb hby d5_77) (n := (1 : Int32)) (by decide) (q := 78) rfl ?_
    refine g_istoreN X41 hx (hb hby d5_78) (L' := #[.val (.ref a1), .val (.ref a2), .val (.int (1 : Int32))]) rfl (q := 79) rfl ?_
    refine g_iloadN X41 hx (hb hby d5_79) (v := (1 : Int32)) rfl (q := 80) rfl ?_
    exact g_retB X41 hx hret hlk (hb hby d5_80) (by decide) ⟨(by rw [← hr]; simp [own_can, nw, (show ¬ w2 = w1 from fun q => nw q.symm)]), rfl, e41⟩ (Nat.le_of_ble_eq_true rfl) (Nat.le_of_ble_eq_true rfl)
  · refine g_aloadN X0 hx (hb hby d5_0) (v := (.ref a1)) rfl rfl (q := 1) rfl ?_
    refine g_getF X0 hx hZ hown (hw _ (List.mem_of_getElem? (i := 24) rfl)) Via.refl e0 F1 (hb hby d5_1) (q := 4) rfl fun T42 X42 e42 => ?_
    refine g_ifnonnullY X42 hx (hb hby d5_4) (by decide) (q := 34) (by decide) ?_
    refine g_aloadN X42 hx (hb hby d5_34) (v := (.ref a1)) rfl rfl (q := 35) rfl ?_
    refine g_getF X42 hx hZ hown (hw _ (List.mem_of_getElem? (i := 24) rfl)) Via.refl e42 F1 (hb hby d5_35) (q := 38) rfl fun T43 X43 e43 => ?_
    refine g_ifnullN X43 hx (hb hby d5_38) (q := 41) rfl ?_
    refine g_aloadN X43 hx (hb hby d5_41) (v := (.ref a2)) rfl rfl (q := 42) rfl ?_
    refine g_callV X43 hx hZ hown (hw _ (List.mem_of_getElem? (i := 31) rfl)) (hw _ (List.mem_of_getElem? (i := 32) rfl)) (hw _ (List.mem_of_getElem? (i := 34) rfl)) (hw _ (List.mem_of_getElem? (i := 33) rfl)) (hw _ (List.mem_of_getElem? (i := 35) rfl)) (hw _ (List.mem_of_getElem? (i := 10) rfl)) (notFace_of_selects (args := #[]) (mvT hZ (hw _ (List.mem_of_getElem? (i := 34) rfl)))) (by decide) e43 E2 (rmE l Z a0 hw a2 (.ref w1) rfl h0 G1) (by exact hml.symm) (argsL := []) (rest := []) rfl rfl pd_1 rfl (Nat.le_of_ble_eq_true rfl) (Nat.le_of_ble_eq_true rfl) (Nat.le_of_ble_eq_true rfl) (Nat.le_of_ble_eq_true rfl) (hb hby d5_42) (q := 45) rfl (g_pure rfl rfl fun T44 X44 e44 => ?_)
    show Go p e below _ (T44.setTop (mkF m 45 #[.val (.ref a1), .val (.ref a2), .unset] [(.ref w1)]))
    refine g_ifnullN X44 hx (hb hby d5_45) (q := 48) rfl ?_
    refine g_aloadN X44 hx (hb hby d5_48) (v := (.ref a2)) rfl rfl (q := 49) rfl ?_
    refine g_callV X44 hx hZ hown (hw _ (List.mem_of_getElem? (i := 31) rfl)) (hw _ (List.mem_of_getElem? (i := 32) rfl)) (hw _ (List.mem_of_getElem? (i := 34) rfl)) (hw _ (List.mem_of_getElem? (i := 33) rfl)) (hw _ (List.mem_of_getElem? (i := 35) rfl)) (hw _ (List.mem_of_getElem? (i := 10) rfl)) (notFace_of_selects (args := #[]) (mvT hZ (hw _ (List.mem_of_getElem? (i := 34) rfl)))) (by decide) e44 E2 (rmE l Z a0 hw a2 (.ref w1) rfl h0 G1) (by exact hml.symm) (argsL := []) (rest := []) rfl rfl pd_1 rfl (Nat.le_of_ble_eq_true rfl) (Nat.le_of_ble_eq_true rfl) (Nat.le_of_ble_eq_true rfl) (Nat.le_of_ble_eq_true rfl) (hb hby d5_49) (q := 52) rfl (g_pure rfl rfl fun T45 X45 e45 => ?_)
    show Go p e below _ (T45.setTop (mkF m 52 #[.val (.ref a1), .val (.ref a2), .unset] [(.ref w1)]))
    refine g_getS X45 hx hZ hown (hw _ (List.mem_of_getElem? (i := 41) rfl)) Via.refl e45 SR (hb hby d5_52) (q := 55) rfl fun T46 X46 e46 => ?_
    refine g_acmpNe X46 hx rfl rfl (hb hby d5_55) (by decide) (q := 72) (by decide) (q2 := 58) rfl (fun hb55 => absurd hb55 (by simp)) (fun hb55 => ?_)
    refine g_aloadN X46 hx (hb hby d5_58) (v := (.ref a1)) rfl rfl (q := 59) rfl ?_
    refine g_getF X46 hx hZ hown (hw _ (List.mem_of_getElem? (i := 24) rfl)) Via.refl e46 F1 (hb hby d5_59) (q := 62) rfl fun T47 X47 e47 => ?_
    refine g_getS X47 hx hZ hown (hw _ (List.mem_of_getElem? (i := 42) rfl)) Via.refl e47 SS (hb hby d5_62) (q := 65) rfl fun T48 X48 e48 => ?_
    refine g_acmpNe X48 hx rfl rfl (hb hby d5_65) (by decide) (q := 72) (by decide) (q2 := 68) rfl (fun hb65 => absurd hb65 (by simp)) (fun hb65 => ?_)
    refine g_iconst X48 hx (hb hby d5_68) (n := (1 : Int32)) (by decide) (q := 69) rfl ?_
    refine g_goto X48 hx (hb hby d5_69) (by decide) (q := 73) (by decide) ?_
    refine g_istoreN X48 hx (hb hby d5_73) (L' := #[.val (.ref a1), .val (.ref a2), .val (.int (1 : Int32))]) rfl (q := 74) rfl ?_
    refine g_goto X48 hx (hb hby d5_74) (by decide) (q := 79) (by decide) ?_
    refine g_iloadN X48 hx (hb hby d5_79) (v := (1 : Int32)) rfl (q := 80) rfl ?_
    exact g_retB X48 hx hret hlk (hb hby d5_80) (by decide) ⟨(by rw [← hr]; simp [own_can, nw, (show ¬ w2 = w1 from fun q => nw q.symm)]), rfl, e48⟩ (Nat.le_of_ble_eq_true rfl) (Nat.le_of_ble_eq_true rfl)
  · refine g_aloadN X0 hx (hb hby d5_0) (v := (.ref a1)) rfl rfl (q := 1) rfl ?_
    refine g_getF X0 hx hZ hown (hw _ (List.mem_of_getElem? (i := 24) rfl)) Via.refl e0 F1 (hb hby d5_1) (q := 4) rfl fun T49 X49 e49 => ?_
    refine g_ifnonnullY X49 hx (hb hby d5_4) (by decide) (q := 34) (by decide) ?_
    refine g_aloadN X49 hx (hb hby d5_34) (v := (.ref a1)) rfl rfl (q := 35) rfl ?_
    refine g_getF X49 hx hZ hown (hw _ (List.mem_of_getElem? (i := 24) rfl)) Via.refl e49 F1 (hb hby d5_35) (q := 38) rfl fun T50 X50 e50 => ?_
    refine g_ifnullN X50 hx (hb hby d5_38) (q := 41) rfl ?_
    refine g_aloadN X50 hx (hb hby d5_41) (v := (.ref a2)) rfl rfl (q := 42) rfl ?_
    refine g_callV X50 hx hZ hown (hw _ (List.mem_of_getElem? (i := 31) rfl)) (hw _ (List.mem_of_getElem? (i := 32) rfl)) (hw _ (List.mem_of_getElem? (i := 34) rfl)) (hw _ (List.mem_of_getElem? (i := 33) rfl)) (hw _ (List.mem_of_getElem? (i := 35) rfl)) (hw _ (List.mem_of_getElem? (i := 10) rfl)) (notFace_of_selects (args := #[]) (mvT hZ (hw _ (List.mem_of_getElem? (i := 34) rfl)))) (by decide) e50 E2 (rmE l Z a0 hw a2 (.ref w2) rfl h0 G1) (by exact hml.symm) (argsL := []) (rest := []) rfl rfl pd_1 rfl (Nat.le_of_ble_eq_true rfl) (Nat.le_of_ble_eq_true rfl) (Nat.le_of_ble_eq_true rfl) (Nat.le_of_ble_eq_true rfl) (hb hby d5_42) (q := 45) rfl (g_pure rfl rfl fun T51 X51 e51 => ?_)
    show Go p e below _ (T51.setTop (mkF m 45 #[.val (.ref a1), .val (.ref a2), .unset] [(.ref w2)]))
    refine g_ifnullN X51 hx (hb hby d5_45) (q := 48) rfl ?_
    refine g_aloadN X51 hx (hb hby d5_48) (v := (.ref a2)) rfl rfl (q := 49) rfl ?_
    refine g_callV X51 hx hZ hown (hw _ (List.mem_of_getElem? (i := 31) rfl)) (hw _ (List.mem_of_getElem? (i := 32) rfl)) (hw _ (List.mem_of_getElem? (i := 34) rfl)) (hw _ (List.mem_of_getElem? (i := 33) rfl)) (hw _ (List.mem_of_getElem? (i := 35) rfl)) (hw _ (List.mem_of_getElem? (i := 10) rfl)) (notFace_of_selects (args := #[]) (mvT hZ (hw _ (List.mem_of_getElem? (i := 34) rfl)))) (by decide) e51 E2 (rmE l Z a0 hw a2 (.ref w2) rfl h0 G1) (by exact hml.symm) (argsL := []) (rest := []) rfl rfl pd_1 rfl (Nat.le_of_ble_eq_true rfl) (Nat.le_of_ble_eq_true rfl) (Nat.le_of_ble_eq_true rfl) (Nat.le_of_ble_eq_true rfl) (hb hby d5_49) (q := 52) rfl (g_pure rfl rfl fun T52 X52 e52 => ?_)
    show Go p e below _ (T52.setTop (mkF m 52 #[.val (.ref a1), .val (.ref a2), .unset] [(.ref w2)]))
    refine g_getS X52 hx hZ hown (hw _ (List.mem_of_getElem? (i := 41) rfl)) Via.refl e52 SR (hb hby d5_52) (q := 55) rfl fun T53 X53 e53 => ?_
    refine g_acmpNe X53 hx rfl rfl (hb hby d5_55) (by decide) (q := 72) (by decide) (q2 := 58) rfl (fun hb55 => ?_) (fun hb55 => absurd hb55 (own_noref (fun q => nw q.symm)))
    refine g_iconst X53 hx (hb hby d5_72) (n := (0 : Int32)) (by decide) (q := 73) rfl ?_
    refine g_istoreN X53 hx (hb hby d5_73) (L' := #[.val (.ref a1), .val (.ref a2), .val (.int (0 : Int32))]) rfl (q := 74) rfl ?_
    refine g_goto X53 hx (hb hby d5_74) (by decide) (q := 79) (by decide) ?_
    refine g_iloadN X53 hx (hb hby d5_79) (v := (0 : Int32)) rfl (q := 80) rfl ?_
    exact g_retB X53 hx hret hlk (hb hby d5_80) (by decide) ⟨(by rw [← hr]; simp [own_can, nw, (show ¬ w2 = w1 from fun q => nw q.symm)]), rfl, e53⟩ (Nat.le_of_ble_eq_true rfl) (Nat.le_of_ble_eq_true rfl)
set_option maxRecDepth 65536 in
set_option maxHeartbeats 40000000 in
theorem rm0 (l : Launch) (Z : State) (a0 : Array Value) (hw : ∀ d ∈ tables_1, d.before a0 Z = true) (p1 p2 p3 p4 : Int32) (w1 w2 : Addr) (h0 : Heap) (n0 : Nat) (Z0 : n0 ≤ h0.size) (nw : ¬ w1 = w2) (SR : Sta Z h0 "com/example/skyledger/skyledger/SolarEvent" "SUNRISE" "Lcom/example/skyledger/skyledger/SolarEvent;" (.ref w1)) (SS : Sta Z h0 "com/example/skyledger/skyledger/SolarEvent" "SUNSET" "Lcom/example/skyledger/skyledger/SolarEvent;" (.ref w2)) (ve vs : Value) (he : own_kind p2 w1 w2 = ve) (hs : own_kind p4 w1 w2 = vs) (hve : ve = .null ∨ ve = .ref w1 ∨ ve = .ref w2) (hvs : vs = .null ∨ vs = .ref w1 ∨ vs = .ref w2) :
    Con l Z h0 x code maxLocals ret room_1 #[(.int p1), (.int p2), (.int p3), (.int p4)] (fun v h L => v = some (.int 1) ∧ Fr n0 L) := by
  refine con_of (plainFor_of_name pn_0) (Ls := #[.val (.int p1), .val (.int p2), .val (.int p3), .val (.int p4), .unset, .unset, .unset, .unset, .unset]) (fun m => by first | rfl | (simp [entryFrame, mkF, argsToLocals, Value.category, maxLocals]; done)) ?_
  intro p e s m below meth c s₁ hx hZ hby hml hret hlk hnm hown X0 e0
  refine g_iloadN X0 hx (hb hby at_0) (v := p2) rfl (q := 1) rfl ?_
  refine g_callS X0 hx hZ hown (hw _ (List.mem_of_getElem? (i := 0) rfl)) (hw _ (List.mem_of_getElem? (i := 1) rfl)) (hw _ (List.mem_of_getElem? (i := 2) rfl)) (hw _ (List.mem_of_getElem? (i := 3) rfl)) (by decide) e0 (rmK l Z a0 hw p2 w1 w2 h0 SR SS ve he) (by exact hml.symm) (argsL := [(.int p2)]) (rest := []) rfl rfl pd_3 rfl (Nat.le_of_ble_eq_true rfl) (Nat.le_of_ble_eq_true rfl) (Nat.le_of_ble_eq_true rfl) (Nat.le_of_ble_eq_true rfl) (hb hby at_1) (q := 4) rfl (g_pure rfl rfl fun T54 X54 e54 => ?_)
  show Go p e below _ (T54.setTop (mkF m 4 #[.val (.int p1), .val (.int p2), .val (.int p3), .val (.int p4), .unset, .unset, .unset, .unset, .unset] [ve]))
  refine g_astore X54 hx (hb hby at_4) (own_isref hve) (L' := #[.val (.int p1), .val (.int p2), .val (.int p3), .val (.int p4), .val ve, .unset, .unset, .unset, .unset]) (Jvm.Free.XS.store1 rfl (Or.inl rfl) (own_cat1 (own_isref hve))) (q := 6) rfl ?_
  refine g_iloadN X54 hx (hb hby at_6) (v := p4) rfl (q := 7) rfl ?_
  refine g_callS X54 hx hZ hown (hw _ (List.mem_of_getElem? (i := 0) rfl)) (hw _ (List.mem_of_getElem? (i := 1) rfl)) (hw _ (List.mem_of_getElem? (i := 2) rfl)) (hw _ (List.mem_of_getElem? (i := 3) rfl)) (by decide) e54 (rmK l Z a0 hw p4 w1 w2 h0 SR SS vs hs) (by exact hml.symm) (argsL := [(.int p4)]) (rest := []) rfl rfl pd_3 rfl (Nat.le_of_ble_eq_true rfl) (Nat.le_of_ble_eq_true rfl) (Nat.le_of_ble_eq_true rfl) (Nat.le_of_ble_eq_true rfl) (hb hby at_7) (q := 10) rfl (g_pure rfl rfl fun T55 X55 e55 => ?_)
  show Go p e below _ (T55.setTop (mkF m 10 #[.val (.int p1), .val (.int p2), .val (.int p3), .val (.int p4), .val ve, .unset, .unset, .unset, .unset] [vs]))
  refine g_astore X55 hx (hb hby at_10) (own_isref hvs) (L' := #[.val (.int p1), .val (.int p2), .val (.int p3), .val (.int p4), .val ve, .val vs, .unset, .unset, .unset]) (Jvm.Free.XS.store1 rfl (Or.inl rfl) (own_cat1 (own_isref hvs))) (q := 12) rfl ?_
  refine g_new X55 hx hZ hown (hw _ (List.mem_of_getElem? (i := 8) rfl)) (hw _ (List.mem_of_getElem? (i := 9) rfl)) (hw _ (List.mem_of_getElem? (i := 10) rfl)) e55 (hb hby at_12) (Nat.le_of_ble_eq_true rfl) (Nat.le_of_ble_eq_true rfl) (q := 15) rfl fun T56 h56 b1 g56 X56 e56 E56 A56 D56 => ?_
  have ge_b1 : n0 ≤ b1 := Nat.le_trans Z0 (Nat.le_of_eq g56.symm)
  have z_56 := Nat.le_trans Z0 E56.1
  have f57 := (SR.ext E56)
  have f58 := (SS.ext E56)
  have F56_minutes : Fld Z h56 b1 "com/example/skyledger/skyledger/TimeOfDay" "minutes" "I" (.int (0 : Int32)) := D56 (Or.inr (hw _ (List.mem_of_getElem? (i := 23) rfl))) (ty := .int) (by decide)
  have F56_event : Fld Z h56 b1 "com/example/skyledger/skyledger/TimeOfDay" "event" "Lcom/example/skyledger/skyledger/SolarEvent;" .null := D56 (Or.inr (hw _ (List.mem_of_getElem? (i := 25) rfl))) (ty := (.object "com/example/skyledger/skyledger/SolarEvent")) (by decide)
  refine g_dup X56 hx (hb hby at_15) rfl (q := 16) rfl ?_
  refine g_iloadN X56 hx (hb hby at_16) (v := p1) rfl (q := 17) rfl ?_
  refine g_aload X56 hx (hb hby at_17) (v := ve) rfl (own_isref hve) (q := 19) rfl ?_
  refine g_callI X56 hx hZ hown rfl (hw _ (List.mem_of_getElem? (i := 11) rfl)) (hw _ (List.mem_of_getElem? (i := 12) rfl)) (hw _ (List.mem_of_getElem? (i := 13) rfl)) (hw _ (List.mem_of_getElem? (i := 10) rfl)) (by decide) e56 (b := b1) (rmC l Z a0 hw b1 p1 ve (own_isref hve) h56 n0 ge_b1 A56 F56_minutes F56_event) (by exact hml.symm) (argsL := [(.int p1), ve]) (rest := [(.ref b1)]) rfl rfl pd_4 rfl (Nat.le_of_ble_eq_true rfl) (Nat.le_of_ble_eq_true rfl) (Nat.le_of_ble_eq_true rfl) (Nat.le_of_ble_eq_true rfl) (hb hby at_19) (q := 22) rfl (fun v59 T59 L59 X59 hQ59 => ?_)
  generalize e59 : T59.heap = h59 at hQ59
  obtain ⟨rfl, M59, K59, A59, B59, C59⟩ := hQ59
  have N59 := Fr.app (Fr.nil n0) M59
  have Z59 : n0 ≤ h59.size := Nat.le_trans z_56 K59.1
  have f60 := (own_sta_keep f57 K59 (nsS A56.nostat ns0))
  have f61 := (own_sta_keep f58 K59 (nsS A56.nostat ns0))
  have f62 := (A56.keep K59)
  show Go p e below _ (T59.setTop (mkF m 22 #[.val (.int p1), .val (.int p2), .val (.int p3), .val (.int p4), .val ve, .val vs, .unset, .unset, .unset] [(.ref b1)]))
  refine g_astore X59 hx (hb hby at_22) rfl (L' := #[.val (.int p1), .val (.int p2), .val (.int p3), .val (.int p4), .val ve, .val vs, .val (.ref b1), .unset, .unset]) rfl (q := 24) rfl ?_
  refine g_new X59 hx hZ hown (hw _ (List.mem_of_getElem? (i := 8) rfl)) (hw _ (List.mem_of_getElem? (i := 9) rfl)) (hw _ (List.mem_of_getElem? (i := 10) rfl)) e59 (hb hby at_24) (Nat.le_of_ble_eq_true rfl) (Nat.le_of_ble_eq_true rfl) (q := 27) rfl fun T63 h63 b2 g63 X63 e63 E63 A63 D63 => ?_
  have ne_b1_b2 : b1 ≠ b2 := Nat.ne_of_lt (Nat.lt_of_lt_of_le A59.lt (Nat.le_of_eq g63.symm))
  have ge_b2 : n0 ≤ b2 := Nat.le_trans Z59 (Nat.le_of_eq g63.symm)
  have z_63 := Nat.le_trans Z59 E63.1
  have f64 := (f60.ext E63)
  have f65 := (f61.ext E63)
  have f66 := (A59.ext E63)
  have f67 := (B59.ext E63)
  have f68 := (C59.ext E63)
  have F63_minutes : Fld Z h63 b2 "com/example/skyledger/skyledger/TimeOfDay" "minutes" "I" (.int (0 : Int32)) := D63 (Or.inr (hw _ (List.mem_of_getElem? (i := 23) rfl))) (ty := .int) (by decide)
  have F63_event : Fld Z h63 b2 "com/example/skyledger/skyledger/TimeOfDay" "event" "Lcom/example/skyledger/skyledger/SolarEvent;" .null := D63 (Or.inr (hw _ (List.mem_of_getElem? (i := 25) rfl))) (ty := (.object "com/example/skyledger/skyledger/SolarEvent")) (by decide)
  refine g_dup X63 hx (hb hby at_27) rfl (q := 28) rfl ?_
  refine g_iloadN X63 hx (hb hby at_28) (v := p3) rfl (q := 29) rfl ?_
  refine g_aload X63 hx (hb hby at_29) (v := vs) rfl (own_isref hvs) (q := 31) rfl ?_
  refine g_callI X63 hx hZ hown rfl (hw _ (List.mem_of_getElem? (i := 11) rfl)) (hw _ (List.mem_of_getElem? (i := 12) rfl)) (hw _ (List.mem_of_getElem? (i := 13) rfl)) (hw _ (List.mem_of_getElem? (i := 10) rfl)) (by decide) e63 (b := b2) (rmC l Z a0 hw b2 p3 vs (own_isref hvs) h63 n0 ge_b2 A63 F63_minutes F63_event) (by exact hml.symm) (argsL := [(.int p3), vs]) (rest := [(.ref b2)]) rfl rfl pd_4 rfl (Nat.le_of_ble_eq_true rfl) (Nat.le_of_ble_eq_true rfl) (Nat.le_of_ble_eq_true rfl) (Nat.le_of_ble_eq_true rfl) (hb hby at_31) (q := 34) rfl (fun v69 T69 L69 X69 hQ69 => ?_)
  generalize e69 : T69.heap = h69 at hQ69
  obtain ⟨rfl, M69, K69, A69, B69, C69⟩ := hQ69
  have N69 := Fr.app N59 M69
  have Z69 : n0 ≤ h69.size := Nat.le_trans z_63 K69.1
  have f70 := (own_sta_keep f64 K69 (nsS A63.nostat ns0))
  have f71 := (own_sta_keep f65 K69 (nsS A63.nostat ns0))
  have f72 := (f66.keep K69)
  have f73 := (f67.keep K69 (ninS ne_b1_b2 nin0))
  have f74 := (f68.keep K69 (ninS ne_b1_b2 nin0))
  have f75 := (A63.keep K69)
  show Go p e below _ (T69.setTop (mkF m 34 #[.val (.int p1), .val (.int p2), .val (.int p3), .val (.int p4), .val ve, .val vs, .val (.ref b1), .unset, .unset] [(.ref b2)]))
  refine g_astore X69 hx (hb hby at_34) rfl (L' := #[.val (.int p1), .val (.int p2), .val (.int p3), .val (.int p4), .val ve, .val vs, .val (.ref b1), .val (.ref b2), .unset]) rfl (q := 36) rfl ?_
  rcases hve with rfl | rfl | rfl <;> rcases hvs with rfl | rfl | rfl
  · refine g_aload X69 hx (hb hby at_36) (v := .null) rfl rfl (q := 38) rfl ?_
    refine g_ifnonnullN X69 hx (hb hby at_38) (q := 41) rfl ?_
    refine g_aload X69 hx (hb hby at_41) (v := .null) rfl rfl (q := 43) rfl ?_
    refine g_ifnonnullN X69 hx (hb hby at_43) (q := 46) rfl ?_
    refine g_iloadN X69 hx (hb hby at_46) (v := p1) rfl (q := 47) rfl ?_
    refine g_i2l X69 hx (hb hby at_47) (z := (p1.toInt64)) rfl (q := 48) rfl ?_
    refine g_iloadN X69 hx (hb hby at_48) (v := p3) rfl (q := 49) rfl ?_
    refine g_i2l X69 hx (hb hby at_49) (z := (p3.toInt64)) rfl (q := 50) rfl ?_
    refine g_lsub X69 hx (hb hby at_50) (z := ((p1.toInt64) - (p3.toInt64))) rfl (q := 51) rfl ?_
    refine g_lconst X69 hx (hb hby at_51) (n := (0 : Int64)) (by decide) (q := 52) rfl ?_
    refine g_lcmp X69 hx (hb hby at_52) (z := (lcmpW ((p1.toInt64) - (p3.toInt64)) (0 : Int64))) rfl (q := 53) rfl ?_
    refine g_if_le X69 hx (hb hby at_53) (by decide) (q := 60) (by decide) (q2 := 56) rfl (fun hb53 => ?_) (fun hb53 => ?_)
    · refine g_iconst X69 hx (hb hby at_60) (n := (0 : Int32)) (by decide) (q := 61) rfl ?_
      refine g_istore X69 hx (hb hby at_61) (L' := #[.val (.int p1), .val (.int p2), .val (.int p3), .val (.int p4), .val .null, .val .null, .val (.ref b1), .val (.ref b2), .val (.int (0 : Int32))]) rfl (q := 63) rfl ?_
      refine g_goto X69 hx (hb hby at_63) (by decide) (q := 102) (by decide) ?_
      refine g_aload X69 hx (hb hby at_102) (v := (.ref b1)) rfl rfl (q := 104) rfl ?_
      refine g_aload X69 hx (hb hby at_104) (v := (.ref b2)) rfl rfl (q := 106) rfl ?_
      refine g_callV X69 hx hZ hown (hw _ (List.mem_of_getElem? (i := 26) rfl)) (hw _ (List.mem_of_getElem? (i := 27) rfl)) (hw _ (List.mem_of_getElem? (i := 29) rfl)) (hw _ (List.mem_of_getElem? (i := 28) rfl)) (hw _ (List.mem_of_getElem? (i := 30) rfl)) (hw _ (List.mem_of_getElem? (i := 10) rfl)) (notFace_of_selects (args := #[]) (mvT hZ (hw _ (List.mem_of_getElem? (i := 29) rfl)))) (by decide) e69 f72 (rmF l Z a0 hw b1 b2 w1 w2 p1 p3 .null .null nw (Or.inl rfl) (Or.inl rfl) h69 f70 f71 A69 f73 f74 B69 C69 (0 : Int32) (by simp [own_can, nw, (show ¬ w2 = w1 from fun q => nw q.symm), (show ¬ p3 < p1 from fun q => hb53 ((own_gap p1 p3).mpr q))])) (by exact hml.symm) (argsL := [(.ref b2)]) (rest := []) rfl rfl pd_5 rfl (Nat.le_of_ble_eq_true rfl) (Nat.le_of_ble_eq_true rfl) (Nat.le_of_ble_eq_true rfl) (Nat.le_of_ble_eq_true rfl) (hb hby at_106) (q := 109) rfl (g_pure rfl rfl fun T76 X76 e76 => ?_)
      show Go p e below _ (T76.setTop (mkF m 109 #[.val (.int p1), .val (.int p2), .val (.int p3), .val (.int p4), .val .null, .val .null, .val (.ref b1), .val (.ref b2), .val (.int (0 : Int32))] [(.int (0 : Int32))]))
      refine g_iload X76 hx (hb hby at_109) (v := (0 : Int32)) rfl (q := 111) rfl ?_
      refine g_icmp_ne X76 hx (hb hby at_111) (by decide) (q := 118) (by decide) (q2 := 114) rfl (fun hb111 => absurd hb111 (by decide)) (fun hb111 => ?_)
      refine g_iconst X76 hx (hb hby at_114) (n := (1 : Int32)) (by decide) (q := 115) rfl ?_
      refine g_goto X76 hx (hb hby at_115) (by decide) (q := 119) (by decide) ?_
      exact g_retB X76 hx hret hlk (hb hby at_119) (by decide) ⟨rfl, by simpa using N69⟩ (Nat.le_of_ble_eq_true rfl) (Nat.le_of_ble_eq_true rfl)
    · refine g_iconst X69 hx (hb hby at_56) (n := (1 : Int32)) (by decide) (q := 57) rfl ?_
      refine g_goto X69 hx (hb hby at_57) (by decide) (q := 61) (by decide) ?_
      refine g_istore X69 hx (hb hby at_61) (L' := #[.val (.int p1), .val (.int p2), .val (.int p3), .val (.int p4), .val .null, .val .null, .val (.ref b1), .val (.ref b2), .val (.int (1 : Int32))]) rfl (q := 63) rfl ?_
      refine g_goto X69 hx (hb hby at_63) (by decide) (q := 102) (by decide) ?_
      refine g_aload X69 hx (hb hby at_102) (v := (.ref b1)) rfl rfl (q := 104) rfl ?_
      refine g_aload X69 hx (hb hby at_104) (v := (.ref b2)) rfl rfl (q := 106) rfl ?_
      refine g_callV X69 hx hZ hown (hw _ (List.mem_of_getElem? (i := 26) rfl)) (hw _ (List.mem_of_getElem? (i := 27) rfl)) (hw _ (List.mem_of_getElem? (i := 29) rfl)) (hw _ (List.mem_of_getElem? (i := 28) rfl)) (hw _ (List.mem_of_getElem? (i := 30) rfl)) (hw _ (List.mem_of_getElem? (i := 10) rfl)) (notFace_of_selects (args := #[]) (mvT hZ (hw _ (List.mem_of_getElem? (i := 29) rfl)))) (by decide) e69 f72 (rmF l Z a0 hw b1 b2 w1 w2 p1 p3 .null .null nw (Or.inl rfl) (Or.inl rfl) h69 f70 f71 A69 f73 f74 B69 C69 (1 : Int32) (by simp [own_can, nw, (show ¬ w2 = w1 from fun q => nw q.symm), (show p3 < p1 from (own_gap p1 p3).mp hb53)])) (by exact hml.symm) (argsL := [(.ref b2)]) (rest := []) rfl rfl pd_5 rfl (Nat.le_of_ble_eq_true rfl) (Nat.le_of_ble_eq_true rfl) (Nat.le_of_ble_eq_true rfl) (Nat.le_of_ble_eq_true rfl) (hb hby at_106) (q := 109) rfl (g_pure rfl rfl fun T77 X77 e77 => ?_)
      show Go p e below _ (T77.setTop (mkF m 109 #[.val (.int p1), .val (.int p2), .val (.int p3), .val (.int p4), .val .null, .val .null, .val (.ref b1), .val (.ref b2), .val (.int (1 : Int32))] [(.int (1 : Int32))]))
      refine g_iload X77 hx (hb hby at_109) (v := (1 : Int32)) rfl (q := 111) rfl ?_
      refine g_icmp_ne X77 hx (hb hby at_111) (by decide) (q := 118) (by decide) (q2 := 114) rfl (fun hb111 => absurd hb111 (by decide)) (fun hb111 => ?_)
      refine g_iconst X77 hx (hb hby at_114) (n := (1 : Int32)) (by decide) (q := 115) rfl ?_
      refine g_goto X77 hx (hb hby at_115) (by decide) (q := 119) (by decide) ?_
      exact g_retB X77 hx hret hlk (hb hby at_119) (by decide) ⟨rfl, by simpa using N69⟩ (Nat.le_of_ble_eq_true rfl) (Nat.le_of_ble_eq_true rfl)
  · refine g_aload X69 hx (hb hby at_36) (v := .null) rfl rfl (q := 38) rfl ?_
    refine g_ifnonnullN X69 hx (hb hby at_38) (q := 41) rfl ?_
    refine g_aload X69 hx (hb hby at_41) (v := (.ref w1)) rfl rfl (q := 43) rfl ?_
    refine g_ifnonnullY X69 hx (hb hby at_43) (by decide) (q := 66) (by decide) ?_
    refine g_aload X69 hx (hb hby at_66) (v := .null) rfl rfl (q := 68) rfl ?_
    refine g_ifnullY X69 hx (hb hby at_68) (by decide) (q := 76) (by decide) ?_
    refine g_iconst X69 hx (hb hby at_76) (n := (1 : Int32)) (by decide) (q := 77) rfl ?_
    refine g_istore X69 hx (hb hby at_77) (L' := #[.val (.int p1), .val (.int p2), .val (.int p3), .val (.int p4), .val .null, .val (.ref w1), .val (.ref b1), .val (.ref b2), .val (.int (1 : Int32))]) rfl (q := 79) rfl ?_
    refine g_goto X69 hx (hb hby at_79) (by decide) (q := 102) (by decide) ?_
    refine g_aload X69 hx (hb hby at_102) (v := (.ref b1)) rfl rfl (q := 104) rfl ?_
    refine g_aload X69 hx (hb hby at_104) (v := (.ref b2)) rfl rfl (q := 106) rfl ?_
    refine g_callV X69 hx hZ hown (hw _ (List.mem_of_getElem? (i := 26) rfl)) (hw _ (List.mem_of_getElem? (i := 27) rfl)) (hw _ (List.mem_of_getElem? (i := 29) rfl)) (hw _ (List.mem_of_getElem? (i := 28) rfl)) (hw _ (List.mem_of_getElem? (i := 30) rfl)) (hw _ (List.mem_of_getElem? (i := 10) rfl)) (notFace_of_selects (args := #[]) (mvT hZ (hw _ (List.mem_of_getElem? (i := 29) rfl)))) (by decide) e69 f72 (rmF l Z a0 hw b1 b2 w1 w2 p1 p3 .null (.ref w1) nw (Or.inl rfl) (Or.inr (Or.inl rfl)) h69 f70 f71 A69 f73 f74 B69 C69 (1 : Int32) (by simp [own_can, nw, (show ¬ w2 = w1 from fun q => nw q.symm)])) (by exact hml.symm) (argsL := [(.ref b2)]) (rest := []) rfl rfl pd_5 rfl (Nat.le_of_ble_eq_true rfl) (Nat.le_of_ble_eq_true rfl) (Nat.le_of_ble_eq_true rfl) (Nat.le_of_ble_eq_true rfl) (hb hby at_106) (q := 109) rfl (g_pure rfl rfl fun T78 X78 e78 => ?_)
    show Go p e below _ (T78.setTop (mkF m 109 #[.val (.int p1), .val (.int p2), .val (.int p3), .val (.int p4), .val .null, .val (.ref w1), .val (.ref b1), .val (.ref b2), .val (.int (1 : Int32))] [(.int (1 : Int32))]))
    refine g_iload X78 hx (hb hby at_109) (v := (1 : Int32)) rfl (q := 111) rfl ?_
    refine g_icmp_ne X78 hx (hb hby at_111) (by decide) (q := 118) (by decide) (q2 := 114) rfl (fun hb111 => absurd hb111 (by decide)) (fun hb111 => ?_)
    refine g_iconst X78 hx (hb hby at_114) (n := (1 : Int32)) (by decide) (q := 115) rfl ?_
    refine g_goto X78 hx (hb hby at_115) (by decide) (q := 119) (by decide) ?_
    exact g_retB X78 hx hret hlk (hb hby at_119) (by decide) ⟨rfl, by simpa using N69⟩ (Nat.le_of_ble_eq_true rfl) (Nat.le_of_ble_eq_true rfl)
  · refine g_aload X69 hx (hb hby at_36) (v := .null) rfl rfl (q := 38) rfl ?_
    refine g_ifnonnullN X69 hx (hb hby at_38) (q := 41) rfl ?_
    refine g_aload X69 hx (hb hby at_41) (v := (.ref w2)) rfl rfl (q := 43) rfl ?_
    refine g_ifnonnullY X69 hx (hb hby at_43) (by decide) (q := 66) (by decide) ?_
    refine g_aload X69 hx (hb hby at_66) (v := .null) rfl rfl (q := 68) rfl ?_
    refine g_ifnullY X69 hx (hb hby at_68) (by decide) (q := 76) (by decide) ?_
    refine g_iconst X69 hx (hb hby at_76) (n := (1 : Int32)) (by decide) (q := 77) rfl ?_
    refine g_istore X69 hx (hb hby at_77) (L' := #[.val (.int p1), .val (.int p2), .val (.int p3), .val (.int p4), .val .null, .val (.ref w2), .val (.ref b1), .val (.ref b2), .val (.int (1 : Int32))]) rfl (q := 79) rfl ?_
    refine g_goto X69 hx (hb hby at_79) (by decide) (q := 102) (by decide) ?_
    refine g_aload X69 hx (hb hby at_102) (v := (.ref b1)) rfl rfl (q := 104) rfl ?_
    refine g_aload X69 hx (hb hby at_104) (v := (.ref b2)) rfl rfl (q := 106) rfl ?_
    refine g_callV X69 hx hZ hown (hw _ (List.mem_of_getElem? (i := 26) rfl)) (hw _ (List.mem_of_getElem? (i := 27) rfl)) (hw _ (List.mem_of_getElem? (i := 29) rfl)) (hw _ (List.mem_of_getElem? (i := 28) rfl)) (hw _ (List.mem_of_getElem? (i := 30) rfl)) (hw _ (List.mem_of_getElem? (i := 10) rfl)) (notFace_of_selects (args := #[]) (mvT hZ (hw _ (List.mem_of_getElem? (i := 29) rfl)))) (by decide) e69 f72 (rmF l Z a0 hw b1 b2 w1 w2 p1 p3 .null (.ref w2) nw (Or.inl rfl) (Or.inr (Or.inr rfl)) h69 f70 f71 A69 f73 f74 B69 C69 (1 : Int32) (by simp [own_can, nw, (show ¬ w2 = w1 from fun q => nw q.symm)])) (by exact hml.symm) (argsL := [(.ref b2)]) (rest := []) rfl rfl pd_5 rfl (Nat.le_of_ble_eq_true rfl) (Nat.le_of_ble_eq_true rfl) (Nat.le_of_ble_eq_true rfl) (Nat.le_of_ble_eq_true rfl) (hb hby at_106) (q := 109) rfl (g_pure rfl rfl fun T79 X79 e79 => ?_)
    show Go p e below _ (T79.setTop (mkF m 109 #[.val (.int p1), .val (.int p2), .val (.int p3), .val (.int p4), .val .null, .val (.ref w2), .val (.ref b1), .val (.ref b2), .val (.int (1 : Int32))] [(.int (1 : Int32))]))
    refine g_iload X79 hx (hb hby at_109) (v := (1 : Int32)) rfl (q := 111) rfl ?_
    refine g_icmp_ne X79 hx (hb hby at_111) (by decide) (q := 118) (by decide) (q2 := 114) rfl (fun hb111 => absurd hb111 (by decide)) (fun hb111 => ?_)
    refine g_iconst X79 hx (hb hby at_114) (n := (1 : Int32)) (by decide) (q := 115) rfl ?_
    refine g_goto X79 hx (hb hby at_115) (by decide) (q := 119) (by decide) ?_
    exact g_retB X79 hx hret hlk (hb hby at_119) (by decide) ⟨rfl, by simpa using N69⟩ (Nat.le_of_ble_eq_true rfl) (Nat.le_of_ble_eq_true rfl)
  · refine g_aload X69 hx (hb hby at_36) (v := (.ref w1)) rfl rfl (q := 38) rfl ?_
    refine g_ifnonnullY X69 hx (hb hby at_38) (by decide) (q := 66) (by decide) ?_
    refine g_aload X69 hx (hb hby at_66) (v := (.ref w1)) rfl rfl (q := 68) rfl ?_
    refine g_ifnullN X69 hx (hb hby at_68) (q := 71) rfl ?_
    refine g_aload X69 hx (hb hby at_71) (v := .null) rfl rfl (q := 73) rfl ?_
    refine g_ifnonnullN X69 hx (hb hby at_73) (q := 76) rfl ?_
    refine g_iconst X69 hx (hb hby at_76) (n := (1 : Int32)) (by decide) (q := 77) rfl ?_
    refine g_istore X69 hx (hb hby at_77) (L' := #[.val (.int p1), .val (.int p2), .val (.int p3), .val (.int p4), .val (.ref w1), .val .null, .val (.ref b1), .val (.ref b2), .val (.int (1 : Int32))]) rfl (q := 79) rfl ?_
    refine g_goto X69 hx (hb hby at_79) (by decide) (q := 102) (by decide) ?_
    refine g_aload X69 hx (hb hby at_102) (v := (.ref b1)) rfl rfl (q := 104) rfl ?_
    refine g_aload X69 hx (hb hby at_104) (v := (.ref b2)) rfl rfl (q := 106) rfl ?_
    refine g_callV X69 hx hZ hown (hw _ (List.mem_of_getElem? (i := 26) rfl)) (hw _ (List.mem_of_getElem? (i := 27) rfl)) (hw _ (List.mem_of_getElem? (i := 29) rfl)) (hw _ (List.mem_of_getElem? (i := 28) rfl)) (hw _ (List.mem_of_getElem? (i := 30) rfl)) (hw _ (List.mem_of_getElem? (i := 10) rfl)) (notFace_of_selects (args := #[]) (mvT hZ (hw _ (List.mem_of_getElem? (i := 29) rfl)))) (by decide) e69 f72 (rmF l Z a0 hw b1 b2 w1 w2 p1 p3 (.ref w1) .null nw (Or.inr (Or.inl rfl)) (Or.inl rfl) h69 f70 f71 A69 f73 f74 B69 C69 (1 : Int32) (by simp [own_can, nw, (show ¬ w2 = w1 from fun q => nw q.symm)])) (by exact hml.symm) (argsL := [(.ref b2)]) (rest := []) rfl rfl pd_5 rfl (Nat.le_of_ble_eq_true rfl) (Nat.le_of_ble_eq_true rfl) (Nat.le_of_ble_eq_true rfl) (Nat.le_of_ble_eq_true rfl) (hb hby at_106) (q := 109) rfl (g_pure rfl rfl fun T80 X80 e80 => ?_)
    show Go p e below _ (T80.setTop (mkF m 109 #[.val (.int p1), .val (.int p2), .val (.int p3), .val (.int p4), .val (.ref w1), .val .null, .val (.ref b1), .val (.ref b2), .val (.int (1 : Int32))] [(.int (1 : Int32))]))
    refine g_iload X80 hx (hb hby at_109) (v := (1 : Int32)) rfl (q := 111) rfl ?_
    refine g_icmp_ne X80 hx (hb hby at_111) (by decide) (q := 118) (by decide) (q2 := 114) rfl (fun hb111 => absurd hb111 (by decide)) (fun hb111 => ?_)
    refine g_iconst X80 hx (hb hby at_114) (n := (1 : Int32)) (by decide) (q := 115) rfl ?_
    refine g_goto X80 hx (hb hby at_115) (by decide) (q := 119) (by decide) ?_
    exact g_retB X80 hx hret hlk (hb hby at_119) (by decide) ⟨rfl, by simpa using N69⟩ (Nat.le_of_ble_eq_true rfl) (Nat.le_of_ble_eq_true rfl)
  · refine g_aload X69 hx (hb hby at_36) (v := (.ref w1)) rfl rfl (q := 38) rfl ?_
    refine g_ifnonnullY X69 hx (hb hby at_38) (by decide) (q := 66) (by decide) ?_
    refine g_aload X69 hx (hb hby at_66) (v := (.ref w1)) rfl rfl (q := 68) rfl ?_
    refine g_ifnullN X69 hx (hb hby at_68) (q := 71) rfl ?_
    refine g_aload X69 hx (hb hby at_71) (v := (.ref w1)) rfl rfl (q := 73) rfl ?_
    refine g_ifnonnullY X69 hx (hb hby at_73) (by decide) (q := 82) (by decide) ?_
    refine g_aload X69 hx (hb hby at_82) (v := (.ref w1)) rfl rfl (q := 84) rfl ?_
    refine g_callS X69 hx hZ hown (hw _ (List.mem_of_getElem? (i := 36) rfl)) (hw _ (List.mem_of_getElem? (i := 37) rfl)) (hw _ (List.mem_of_getElem? (i := 2) rfl)) (hw _ (List.mem_of_getElem? (i := 38) rfl)) (by decide) e69 (rmRk l Z a0 hw w1 w2 h69 f71 (0 : Int32) (by simp [nw])) (by exact hml.symm) (argsL := [(.ref w1)]) (rest := []) rfl rfl pd_6 rfl (Nat.le_of_ble_eq_true rfl) (Nat.le_of_ble_eq_true rfl) (Nat.le_of_ble_eq_true rfl) (Nat.le_of_ble_eq_true rfl) (hb hby at_84) (q := 87) rfl (g_pure rfl rfl fun T81 X81 e81 => ?_)
    show Go p e below _ (T81.setTop (mkF m 87 #[.val (.int p1), .val (.int p2), .val (.int p3), .val (.int p4), .val (.ref w1), .val (.ref w1), .val (.ref b1), .val (.ref b2), .unset] [(.int (0 : Int32))]))
    refine g_aload X81 hx (hb hby at_87) (v := (.ref w1)) rfl rfl (q := 89) rfl ?_
    refine g_callS X81 hx hZ hown (hw _ (List.mem_of_getElem? (i := 36) rfl)) (hw _ (List.mem_of_getElem? (i := 37) rfl)) (hw _ (List.mem_of_getElem? (i := 2) rfl)) (hw _ (List.mem_of_getElem? (i := 38) rfl)) (by decide) e81 (rmRk l Z a0 hw w1 w2 h69 f71 (0 : Int32) (by simp [nw])) (by exact hml.symm) (argsL := [(.ref w1)]) (rest := [(.int (0 : Int32))]) rfl rfl pd_6 rfl (Nat.le_of_ble_eq_true rfl) (Nat.le_of_ble_eq_true rfl) (Nat.le_of_ble_eq_true rfl) (Nat.le_of_ble_eq_true rfl) (hb hby at_89) (q := 92) rfl (g_pure rfl rfl fun T82 X82 e82 => ?_)
    show Go p e below _ (T82.setTop (mkF m 92 #[.val (.int p1), .val (.int p2), .val (.int p3), .val (.int p4), .val (.ref w1), .val (.ref w1), .val (.ref b1), .val (.ref b2), .unset] [(.int (0 : Int32)), (.int (0 : Int32))]))
    refine g_icmp_le X82 hx (hb hby at_92) (by decide) (q := 99) (by decide) (q2 := 95) rfl (fun hb92 => ?_) (fun hb92 => absurd hb92 (by decide))
    refine g_iconst X82 hx (hb hby at_99) (n := (0 : Int32)) (by decide) (q := 100) rfl ?_
    refine g_istore X82 hx (hb hby at_100) (L' := #[.val (.int p1), .val (.int p2), .val (.int p3), .val (.int p4), .val (.ref w1), .val (.ref w1), .val (.ref b1), .val (.ref b2), .val (.int (0 : Int32))]) rfl (q := 102) rfl ?_
    refine g_aload X82 hx (hb hby at_102) (v := (.ref b1)) rfl rfl (q := 104) rfl ?_
    refine g_aload X82 hx (hb hby at_104) (v := (.ref b2)) rfl rfl (q := 106) rfl ?_
    refine g_callV X82 hx hZ hown (hw _ (List.mem_of_getElem? (i := 26) rfl)) (hw _ (List.mem_of_getElem? (i := 27) rfl)) (hw _ (List.mem_of_getElem? (i := 29) rfl)) (hw _ (List.mem_of_getElem? (i := 28) rfl)) (hw _ (List.mem_of_getElem? (i := 30) rfl)) (hw _ (List.mem_of_getElem? (i := 10) rfl)) (notFace_of_selects (args := #[]) (mvT hZ (hw _ (List.mem_of_getElem? (i := 29) rfl)))) (by decide) e82 f72 (rmF l Z a0 hw b1 b2 w1 w2 p1 p3 (.ref w1) (.ref w1) nw (Or.inr (Or.inl rfl)) (Or.inr (Or.inl rfl)) h69 f70 f71 A69 f73 f74 B69 C69 (0 : Int32) (by simp [own_can, nw, (show ¬ w2 = w1 from fun q => nw q.symm)])) (by exact hml.symm) (argsL := [(.ref b2)]) (rest := []) rfl rfl pd_5 rfl (Nat.le_of_ble_eq_true rfl) (Nat.le_of_ble_eq_true rfl) (Nat.le_of_ble_eq_true rfl) (Nat.le_of_ble_eq_true rfl) (hb hby at_106) (q := 109) rfl (g_pure rfl rfl fun T83 X83 e83 => ?_)
    show Go p e below _ (T83.setTop (mkF m 109 #[.val (.int p1), .val (.int p2), .val (.int p3), .val (.int p4), .val (.ref w1), .val (.ref w1), .val (.ref b1), .val (.ref b2), .val (.int (0 : Int32))] [(.int (0 : Int32))]))
    refine g_iload X83 hx (hb hby at_109) (v := (0 : Int32)) rfl (q := 111) rfl ?_
    refine g_icmp_ne X83 hx (hb hby at_111) (by decide) (q := 118) (by decide) (q2 := 114) rfl (fun hb111 => absurd hb111 (by decide)) (fun hb111 => ?_)
    refine g_iconst X83 hx (hb hby at_114) (n := (1 : Int32)) (by decide) (q := 115) rfl ?_
    refine g_goto X83 hx (hb hby at_115) (by decide) (q := 119) (by decide) ?_
    exact g_retB X83 hx hret hlk (hb hby at_119) (by decide) ⟨rfl, by simpa using N69⟩ (Nat.le_of_ble_eq_true rfl) (Nat.le_of_ble_eq_true rfl)
  · refine g_aload X69 hx (hb hby at_36) (v := (.ref w1)) rfl rfl (q := 38) rfl ?_
    refine g_ifnonnullY X69 hx (hb hby at_38) (by decide) (q := 66) (by decide) ?_
    refine g_aload X69 hx (hb hby at_66) (v := (.ref w1)) rfl rfl (q := 68) rfl ?_
    refine g_ifnullN X69 hx (hb hby at_68) (q := 71) rfl ?_
    refine g_aload X69 hx (hb hby at_71) (v := (.ref w2)) rfl rfl (q := 73) rfl ?_
    refine g_ifnonnullY X69 hx (hb hby at_73) (by decide) (q := 82) (by decide) ?_
    refine g_aload X69 hx (hb hby at_82) (v := (.ref w1)) rfl rfl (q := 84) rfl ?_
    refine g_callS X69 hx hZ hown (hw _ (List.mem_of_getElem? (i := 36) rfl)) (hw _ (List.mem_of_getElem? (i := 37) rfl)) (hw _ (List.mem_of_getElem? (i := 2) rfl)) (hw _ (List.mem_of_getElem? (i := 38) rfl)) (by decide) e69 (rmRk l Z a0 hw w1 w2 h69 f71 (0 : Int32) (by simp [nw])) (by exact hml.symm) (argsL := [(.ref w1)]) (rest := []) rfl rfl pd_6 rfl (Nat.le_of_ble_eq_true rfl) (Nat.le_of_ble_eq_true rfl) (Nat.le_of_ble_eq_true rfl) (Nat.le_of_ble_eq_true rfl) (hb hby at_84) (q := 87) rfl (g_pure rfl rfl fun T84 X84 e84 => ?_)
    show Go p e below _ (T84.setTop (mkF m 87 #[.val (.int p1), .val (.int p2), .val (.int p3), .val (.int p4), .val (.ref w1), .val (.ref w2), .val (.ref b1), .val (.ref b2), .unset] [(.int (0 : Int32))]))
    refine g_aload X84 hx (hb hby at_87) (v := (.ref w2)) rfl rfl (q := 89) rfl ?_
    refine g_callS X84 hx hZ hown (hw _ (List.mem_of_getElem? (i := 36) rfl)) (hw _ (List.mem_of_getElem? (i := 37) rfl)) (hw _ (List.mem_of_getElem? (i := 2) rfl)) (hw _ (List.mem_of_getElem? (i := 38) rfl)) (by decide) e84 (rmRk l Z a0 hw w2 w2 h69 f71 (1 : Int32) (by simp [nw])) (by exact hml.symm) (argsL := [(.ref w2)]) (rest := [(.int (0 : Int32))]) rfl rfl pd_6 rfl (Nat.le_of_ble_eq_true rfl) (Nat.le_of_ble_eq_true rfl) (Nat.le_of_ble_eq_true rfl) (Nat.le_of_ble_eq_true rfl) (hb hby at_89) (q := 92) rfl (g_pure rfl rfl fun T85 X85 e85 => ?_)
    show Go p e below _ (T85.setTop (mkF m 92 #[.val (.int p1), .val (.int p2), .val (.int p3), .val (.int p4), .val (.ref w1), .val (.ref w2), .val (.ref b1), .val (.ref b2), .unset] [(.int (1 : Int32)), (.int (0 : Int32))]))
    refine g_icmp_le X85 hx (hb hby at_92) (by decide) (q := 99) (by decide) (q2 := 95) rfl (fun hb92 => ?_) (fun hb92 => absurd hb92 (by decide))
    refine g_iconst X85 hx (hb hby at_99) (n := (0 : Int32)) (by decide) (q := 100) rfl ?_
    refine g_istore X85 hx (hb hby at_100) (L' := #[.val (.int p1), .val (.int p2), .val (.int p3), .val (.int p4), .val (.ref w1), .val (.ref w2), .val (.ref b1), .val (.ref b2), .val (.int (0 : Int32))]) rfl (q := 102) rfl ?_
    refine g_aload X85 hx (hb hby at_102) (v := (.ref b1)) rfl rfl (q := 104) rfl ?_
    refine g_aload X85 hx (hb hby at_104) (v := (.ref b2)) rfl rfl (q := 106) rfl ?_
    refine g_callV X85 hx hZ hown (hw _ (List.mem_of_getElem? (i := 26) rfl)) (hw _ (List.mem_of_getElem? (i := 27) rfl)) (hw _ (List.mem_of_getElem? (i := 29) rfl)) (hw _ (List.mem_of_getElem? (i := 28) rfl)) (hw _ (List.mem_of_getElem? (i := 30) rfl)) (hw _ (List.mem_of_getElem? (i := 10) rfl)) (notFace_of_selects (args := #[]) (mvT hZ (hw _ (List.mem_of_getElem? (i := 29) rfl)))) (by decide) e85 f72 (rmF l Z a0 hw b1 b2 w1 w2 p1 p3 (.ref w1) (.ref w2) nw (Or.inr (Or.inl rfl)) (Or.inr (Or.inr rfl)) h69 f70 f71 A69 f73 f74 B69 C69 (0 : Int32) (by simp [own_can, nw, (show ¬ w2 = w1 from fun q => nw q.symm)])) (by exact hml.symm) (argsL := [(.ref b2)]) (rest := []) rfl rfl pd_5 rfl (Nat.le_of_ble_eq_true rfl) (Nat.le_of_ble_eq_true rfl) (Nat.le_of_ble_eq_true rfl) (Nat.le_of_ble_eq_true rfl) (hb hby at_106) (q := 109) rfl (g_pure rfl rfl fun T86 X86 e86 => ?_)
    show Go p e below _ (T86.setTop (mkF m 109 #[.val (.int p1), .val (.int p2), .val (.int p3), .val (.int p4), .val (.ref w1), .val (.ref w2), .val (.ref b1), .val (.ref b2), .val (.int (0 : Int32))] [(.int (0 : Int32))]))
    refine g_iload X86 hx (hb hby at_109) (v := (0 : Int32)) rfl (q := 111) rfl ?_
    refine g_icmp_ne X86 hx (hb hby at_111) (by decide) (q := 118) (by decide) (q2 := 114) rfl (fun hb111 => absurd hb111 (by decide)) (fun hb111 => ?_)
    refine g_iconst X86 hx (hb hby at_114) (n := (1 : Int32)) (by decide) (q := 115) rfl ?_
    refine g_goto X86 hx (hb hby at_115) (by decide) (q := 119) (by decide) ?_
    exact g_retB X86 hx hret hlk (hb hby at_119) (by decide) ⟨rfl, by simpa using N69⟩ (Nat.le_of_ble_eq_true rfl) (Nat.le_of_ble_eq_true rfl)
  · refine g_aload X69 hx (hb hby at_36) (v := (.ref w2)) rfl rfl (q := 38) rfl ?_
    refine g_ifnonnullY X69 hx (hb hby at_38) (by decide) (q := 66) (by decide) ?_
    refine g_aload X69 hx (hb hby at_66) (v := (.ref w2)) rfl rfl (q := 68) rfl ?_
    refine g_ifnullN X69 hx (hb hby at_68) (q := 71) rfl ?_
    refine g_aload X69 hx (hb hby at_71) (v := .null) rfl rfl (q := 73) rfl ?_
    refine g_ifnonnullN X69 hx (hb hby at_73) (q := 76) rfl ?_
    refine g_iconst X69 hx (hb hby at_76) (n := (1 : Int32)) (by decide) (q := 77) rfl ?_
    refine g_istore X69 hx (hb hby at_77) (L' := #[.val (.int p1), .val (.int p2), .val (.int p3), .val (.int p4), .val (.ref w2), .val .null, .val (.ref b1), .val (.ref b2), .val (.int (1 : Int32))]) rfl (q := 79) rfl ?_
    refine g_goto X69 hx (hb hby at_79) (by decide) (q := 102) (by decide) ?_
    refine g_aload X69 hx (hb hby at_102) (v := (.ref b1)) rfl rfl (q := 104) rfl ?_
    refine g_aload X69 hx (hb hby at_104) (v := (.ref b2)) rfl rfl (q := 106) rfl ?_
    refine g_callV X69 hx hZ hown (hw _ (List.mem_of_getElem? (i := 26) rfl)) (hw _ (List.mem_of_getElem? (i := 27) rfl)) (hw _ (List.mem_of_getElem? (i := 29) rfl)) (hw _ (List.mem_of_getElem? (i := 28) rfl)) (hw _ (List.mem_of_getElem? (i := 30) rfl)) (hw _ (List.mem_of_getElem? (i := 10) rfl)) (notFace_of_selects (args := #[]) (mvT hZ (hw _ (List.mem_of_getElem? (i := 29) rfl)))) (by decide) e69 f72 (rmF l Z a0 hw b1 b2 w1 w2 p1 p3 (.ref w2) .null nw (Or.inr (Or.inr rfl)) (Or.inl rfl) h69 f70 f71 A69 f73 f74 B69 C69 (1 : Int32) (by simp [own_can, nw, (show ¬ w2 = w1 from fun q => nw q.symm)])) (by exact hml.symm) (argsL := [(.ref b2)]) (rest := []) rfl rfl pd_5 rfl (Nat.le_of_ble_eq_true rfl) (Nat.le_of_ble_eq_true rfl) (Nat.le_of_ble_eq_true rfl) (Nat.le_of_ble_eq_true rfl) (hb hby at_106) (q := 109) rfl (g_pure rfl rfl fun T87 X87 e87 => ?_)
    show Go p e below _ (T87.setTop (mkF m 109 #[.val (.int p1), .val (.int p2), .val (.int p3), .val (.int p4), .val (.ref w2), .val .null, .val (.ref b1), .val (.ref b2), .val (.int (1 : Int32))] [(.int (1 : Int32))]))
    refine g_iload X87 hx (hb hby at_109) (v := (1 : Int32)) rfl (q := 111) rfl ?_
    refine g_icmp_ne X87 hx (hb hby at_111) (by decide) (q := 118) (by decide) (q2 := 114) rfl (fun hb111 => absurd hb111 (by decide)) (fun hb111 => ?_)
    refine g_iconst X87 hx (hb hby at_114) (n := (1 : Int32)) (by decide) (q := 115) rfl ?_
    refine g_goto X87 hx (hb hby at_115) (by decide) (q := 119) (by decide) ?_
    exact g_retB X87 hx hret hlk (hb hby at_119) (by decide) ⟨rfl, by simpa using N69⟩ (Nat.le_of_ble_eq_true rfl) (Nat.le_of_ble_eq_true rfl)
  · refine g_aload X69 hx (hb hby at_36) (v := (.ref w2)) rfl rfl (q := 38) rfl ?_
    refine g_ifnonnullY X69 hx (hb hby at_38) (by decide) (q := 66) (by decide) ?_
    refine g_aload X69 hx (hb hby at_66) (v := (.ref w2)) rfl rfl (q := 68) rfl ?_
    refine g_ifnullN X69 hx (hb hby at_68) (q := 71) rfl ?_
    refine g_aload X69 hx (hb hby at_71) (v := (.ref w1)) rfl rfl (q := 73) rfl ?_
    refine g_ifnonnullY X69 hx (hb hby at_73) (by decide) (q := 82) (by decide) ?_
    refine g_aload X69 hx (hb hby at_82) (v := (.ref w2)) rfl rfl (q := 84) rfl ?_
    refine g_callS X69 hx hZ hown (hw _ (List.mem_of_getElem? (i := 36) rfl)) (hw _ (List.mem_of_getElem? (i := 37) rfl)) (hw _ (List.mem_of_getElem? (i := 2) rfl)) (hw _ (List.mem_of_getElem? (i := 38) rfl)) (by decide) e69 (rmRk l Z a0 hw w2 w2 h69 f71 (1 : Int32) (by simp [nw])) (by exact hml.symm) (argsL := [(.ref w2)]) (rest := []) rfl rfl pd_6 rfl (Nat.le_of_ble_eq_true rfl) (Nat.le_of_ble_eq_true rfl) (Nat.le_of_ble_eq_true rfl) (Nat.le_of_ble_eq_true rfl) (hb hby at_84) (q := 87) rfl (g_pure rfl rfl fun T88 X88 e88 => ?_)
    show Go p e below _ (T88.setTop (mkF m 87 #[.val (.int p1), .val (.int p2), .val (.int p3), .val (.int p4), .val (.ref w2), .val (.ref w1), .val (.ref b1), .val (.ref b2), .unset] [(.int (1 : Int32))]))
    refine g_aload X88 hx (hb hby at_87) (v := (.ref w1)) rfl rfl (q := 89) rfl ?_
    refine g_callS X88 hx hZ hown (hw _ (List.mem_of_getElem? (i := 36) rfl)) (hw _ (List.mem_of_getElem? (i := 37) rfl)) (hw _ (List.mem_of_getElem? (i := 2) rfl)) (hw _ (List.mem_of_getElem? (i := 38) rfl)) (by decide) e88 (rmRk l Z a0 hw w1 w2 h69 f71 (0 : Int32) (by simp [nw])) (by exact hml.symm) (argsL := [(.ref w1)]) (rest := [(.int (1 : Int32))]) rfl rfl pd_6 rfl (Nat.le_of_ble_eq_true rfl) (Nat.le_of_ble_eq_true rfl) (Nat.le_of_ble_eq_true rfl) (Nat.le_of_ble_eq_true rfl) (hb hby at_89) (q := 92) rfl (g_pure rfl rfl fun T89 X89 e89 => ?_)
    show Go p e below _ (T89.setTop (mkF m 92 #[.val (.int p1), .val (.int p2), .val (.int p3), .val (.int p4), .val (.ref w2), .val (.ref w1), .val (.ref b1), .val (.ref b2), .unset] [(.int (0 : Int32)), (.int (1 : Int32))]))
    refine g_icmp_le X89 hx (hb hby at_92) (by decide) (q := 99) (by decide) (q2 := 95) rfl (fun hb92 => absurd hb92 (by decide)) (fun hb92 => ?_)
    refine g_iconst X89 hx (hb hby at_95) (n := (1 : Int32)) (by decide) (q := 96) rfl ?_
    refine g_goto X89 hx (hb hby at_96) (by decide) (q := 100) (by decide) ?_
    refine g_istore X89 hx (hb hby at_100) (L' := #[.val (.int p1), .val (.int p2), .val (.int p3), .val (.int p4), .val (.ref w2), .val (.ref w1), .val (.ref b1), .val (.ref b2), .val (.int (1 : Int32))]) rfl (q := 102) rfl ?_
    refine g_aload X89 hx (hb hby at_102) (v := (.ref b1)) rfl rfl (q := 104) rfl ?_
    refine g_aload X89 hx (hb hby at_104) (v := (.ref b2)) rfl rfl (q := 106) rfl ?_
    refine g_callV X89 hx hZ hown (hw _ (List.mem_of_getElem? (i := 26) rfl)) (hw _ (List.mem_of_getElem? (i := 27) rfl)) (hw _ (List.mem_of_getElem? (i := 29) rfl)) (hw _ (List.mem_of_getElem? (i := 28) rfl)) (hw _ (List.mem_of_getElem? (i := 30) rfl)) (hw _ (List.mem_of_getElem? (i := 10) rfl)) (notFace_of_selects (args := #[]) (mvT hZ (hw _ (List.mem_of_getElem? (i := 29) rfl)))) (by decide) e89 f72 (rmF l Z a0 hw b1 b2 w1 w2 p1 p3 (.ref w2) (.ref w1) nw (Or.inr (Or.inr rfl)) (Or.inr (Or.inl rfl)) h69 f70 f71 A69 f73 f74 B69 C69 (1 : Int32) (by simp [own_can, nw, (show ¬ w2 = w1 from fun q => nw q.symm)])) (by exact hml.symm) (argsL := [(.ref b2)]) (rest := []) rfl rfl pd_5 rfl (Nat.le_of_ble_eq_true rfl) (Nat.le_of_ble_eq_true rfl) (Nat.le_of_ble_eq_true rfl) (Nat.le_of_ble_eq_true rfl) (hb hby at_106) (q := 109) rfl (g_pure rfl rfl fun T90 X90 e90 => ?_)
    show Go p e below _ (T90.setTop (mkF m 109 #[.val (.int p1), .val (.int p2), .val (.int p3), .val (.int p4), .val (.ref w2), .val (.ref w1), .val (.ref b1), .val (.ref b2), .val (.int (1 : Int32))] [(.int (1 : Int32))]))
    refine g_iload X90 hx (hb hby at_109) (v := (1 : Int32)) rfl (q := 111) rfl ?_
    refine g_icmp_ne X90 hx (hb hby at_111) (by decide) (q := 118) (by decide) (q2 := 114) rfl (fun hb111 => absurd hb111 (by decide)) (fun hb111 => ?_)
    refine g_iconst X90 hx (hb hby at_114) (n := (1 : Int32)) (by decide) (q := 115) rfl ?_
    refine g_goto X90 hx (hb hby at_115) (by decide) (q := 119) (by decide) ?_
    exact g_retB X90 hx hret hlk (hb hby at_119) (by decide) ⟨rfl, by simpa using N69⟩ (Nat.le_of_ble_eq_true rfl) (Nat.le_of_ble_eq_true rfl)
  · refine g_aload X69 hx (hb hby at_36) (v := (.ref w2)) rfl rfl (q := 38) rfl ?_
    refine g_ifnonnullY X69 hx (hb hby at_38) (by decide) (q := 66) (by decide) ?_
    refine g_aload X69 hx (hb hby at_66) (v := (.ref w2)) rfl rfl (q := 68) rfl ?_
    refine g_ifnullN X69 hx (hb hby at_68) (q := 71) rfl ?_
    refine g_aload X69 hx (hb hby at_71) (v := (.ref w2)) rfl rfl (q := 73) rfl ?_
    refine g_ifnonnullY X69 hx (hb hby at_73) (by decide) (q := 82) (by decide) ?_
    refine g_aload X69 hx (hb hby at_82) (v := (.ref w2)) rfl rfl (q := 84) rfl ?_
    refine g_callS X69 hx hZ hown (hw _ (List.mem_of_getElem? (i := 36) rfl)) (hw _ (List.mem_of_getElem? (i := 37) rfl)) (hw _ (List.mem_of_getElem? (i := 2) rfl)) (hw _ (List.mem_of_getElem? (i := 38) rfl)) (by decide) e69 (rmRk l Z a0 hw w2 w2 h69 f71 (1 : Int32) (by simp [nw])) (by exact hml.symm) (argsL := [(.ref w2)]) (rest := []) rfl rfl pd_6 rfl (Nat.le_of_ble_eq_true rfl) (Nat.le_of_ble_eq_true rfl) (Nat.le_of_ble_eq_true rfl) (Nat.le_of_ble_eq_true rfl) (hb hby at_84) (q := 87) rfl (g_pure rfl rfl fun T91 X91 e91 => ?_)
    show Go p e below _ (T91.setTop (mkF m 87 #[.val (.int p1), .val (.int p2), .val (.int p3), .val (.int p4), .val (.ref w2), .val (.ref w2), .val (.ref b1), .val (.ref b2), .unset] [(.int (1 : Int32))]))
    refine g_aload X91 hx (hb hby at_87) (v := (.ref w2)) rfl rfl (q := 89) rfl ?_
    refine g_callS X91 hx hZ hown (hw _ (List.mem_of_getElem? (i := 36) rfl)) (hw _ (List.mem_of_getElem? (i := 37) rfl)) (hw _ (List.mem_of_getElem? (i := 2) rfl)) (hw _ (List.mem_of_getElem? (i := 38) rfl)) (by decide) e91 (rmRk l Z a0 hw w2 w2 h69 f71 (1 : Int32) (by simp [nw])) (by exact hml.symm) (argsL := [(.ref w2)]) (rest := [(.int (1 : Int32))]) rfl rfl pd_6 rfl (Nat.le_of_ble_eq_true rfl) (Nat.le_of_ble_eq_true rfl) (Nat.le_of_ble_eq_true rfl) (Nat.le_of_ble_eq_true rfl) (hb hby at_89) (q := 92) rfl (g_pure rfl rfl fun T92 X92 e92 => ?_)
    show Go p e below _ (T92.setTop (mkF m 92 #[.val (.int p1), .val (.int p2), .val (.int p3), .val (.int p4), .val (.ref w2), .val (.ref w2), .val (.ref b1), .val (.ref b2), .unset] [(.int (1 : Int32)), (.int (1 : Int32))]))
    refine g_icmp_le X92 hx (hb hby at_92) (by decide) (q := 99) (by decide) (q2 := 95) rfl (fun hb92 => ?_) (fun hb92 => absurd hb92 (by decide))
    refine g_iconst X92 hx (hb hby at_99) (n := (0 : Int32)) (by decide) (q := 100) rfl ?_
    refine g_istore X92 hx (hb hby at_100) (L' := #[.val (.int p1), .val (.int p2), .val (.int p3), .val (.int p4), .val (.ref w2), .val (.ref w2), .val (.ref b1), .val (.ref b2), .val (.int (0 : Int32))]) rfl (q := 102) rfl ?_
    refine g_aload X92 hx (hb hby at_102) (v := (.ref b1)) rfl rfl (q := 104) rfl ?_
    refine g_aload X92 hx (hb hby at_104) (v := (.ref b2)) rfl rfl (q := 106) rfl ?_
    refine g_callV X92 hx hZ hown (hw _ (List.mem_of_getElem? (i := 26) rfl)) (hw _ (List.mem_of_getElem? (i := 27) rfl)) (hw _ (List.mem_of_getElem? (i := 29) rfl)) (hw _ (List.mem_of_getElem? (i := 28) rfl)) (hw _ (List.mem_of_getElem? (i := 30) rfl)) (hw _ (List.mem_of_getElem? (i := 10) rfl)) (notFace_of_selects (args := #[]) (mvT hZ (hw _ (List.mem_of_getElem? (i := 29) rfl)))) (by decide) e92 f72 (rmF l Z a0 hw b1 b2 w1 w2 p1 p3 (.ref w2) (.ref w2) nw (Or.inr (Or.inr rfl)) (Or.inr (Or.inr rfl)) h69 f70 f71 A69 f73 f74 B69 C69 (0 : Int32) (by simp [own_can, nw, (show ¬ w2 = w1 from fun q => nw q.symm)])) (by exact hml.symm) (argsL := [(.ref b2)]) (rest := []) rfl rfl pd_5 rfl (Nat.le_of_ble_eq_true rfl) (Nat.le_of_ble_eq_true rfl) (Nat.le_of_ble_eq_true rfl) (Nat.le_of_ble_eq_true rfl) (hb hby at_106) (q := 109) rfl (g_pure rfl rfl fun T93 X93 e93 => ?_)
    show Go p e below _ (T93.setTop (mkF m 109 #[.val (.int p1), .val (.int p2), .val (.int p3), .val (.int p4), .val (.ref w2), .val (.ref w2), .val (.ref b1), .val (.ref b2), .val (.int (0 : Int32))] [(.int (0 : Int32))]))
    refine g_iload X93 hx (hb hby at_109) (v := (0 : Int32)) rfl (q := 111) rfl ?_
    refine g_icmp_ne X93 hx (hb hby at_111) (by decide) (q := 118) (by decide) (q2 := 114) rfl (fun hb111 => absurd hb111 (by decide)) (fun hb111 => ?_)
    refine g_iconst X93 hx (hb hby at_114) (n := (1 : Int32)) (by decide) (q := 115) rfl ?_
    refine g_goto X93 hx (hb hby at_115) (by decide) (q := 119) (by decide) ?_
    exact g_retB X93 hx hret hlk (hb hby at_119) (by decide) ⟨rfl, by simpa using N69⟩ (Nat.le_of_ble_eq_true rfl) (Nat.le_of_ble_eq_true rfl)
set_option maxRecDepth 65536 in
set_option maxHeartbeats 40000000 in
theorem comes_1 {Post : Tables → Env → Array Value → State → Outcome → State → Prop} (hpost : ∀ tb e args s v u, (limb_1_1.after args s (.returned v) u = true ∧ limb_1_2.after args s (.returned v) u = true ∧ True) → FrameEnd s (.returned v) u (Jvm.fieldLocs frame_1_writes args s ++ Jvm.arrayLocs frame_1_arrays args s ++ Jvm.staticLocs frame_1_statics s) 16 128 → Post tb e args s (.returned v) u) :
    ArmFor flags0 classFile x code maxLocals ret World_1 tables_1 room_1 Calls_1 rest_1 Pre_1 Post := by
  intro l hfl _ _ p e ha hc hk s m args below hf hA hF happ hP
  obtain ⟨hcalls, hrest, hpre⟩ := hP
  obtain ⟨-, -, -, hnamed, -, -, -, hat⟩ := (Spec.applies_iff hf).mp happ
  obtain ⟨hg, hn⟩ := and_e (Cond.before_iff.mp (show (Jvm.Cond.and given_1 narrow_1).before args s = true from hpre))
  obtain ⟨gc, gr0⟩ := and_e hg
  obtain ⟨ga0, gr1⟩ := and_e gr0
  obtain ⟨ga1, gr2⟩ := and_e gr1
  obtain ⟨ga2, gr3⟩ := and_e gr2
  have ga3 := gr3
  obtain ⟨w0, w1, w2, w3, rfl⟩ : ∃ w0 w1 w2 w3 : Value, args = #[w0, w1, w2, w3] := by
    have hs : args.size = 4 := by simpa [Cond.value, given_1] using gc
    obtain ⟨L⟩ := args
    match L, hs with
    | [w0, w1, w2, w3], _ => exact ⟨w0, w1, w2, w3, rfl⟩
  have hw := fun d (hd : d ∈ tables_1) => atoms_spec (ws := Jvm.Cond.code x code maxLocals ret :: tables_1) hat d (List.mem_cons_of_mem _ hd)
  have hfit : Fit s := fun {y c} hc i hi => by
    obtain ⟨ha, rfl⟩ := Array.getElem?_eq_some_iff.mp hc
    have q := List.all_eq_true.mp ((Array.all_eq_true_iff_forall_mem.mp hF) _ (Array.getElem_mem ha)) i (List.mem_range.mpr hi)
    simpa [Array.getElem?_eq_getElem hi] using q
  obtain ⟨i0, ei0⟩ := is_v ga0
  obtain rfl : w0 = (.int i0) := Option.some.inj ei0
  obtain ⟨i1, ei1⟩ := is_v ga1
  obtain rfl : w1 = (.int i1) := Option.some.inj ei1
  obtain ⟨i2, ei2⟩ := is_v ga2
  obtain rfl : w2 = (.int i2) := Option.some.inj ei2
  obtain ⟨i3, ei3⟩ := is_v ga3
  obtain rfl : w3 = (.int i3) := Option.some.inj ei3
  obtain ⟨n1, nr1⟩ := and_e hn
  obtain ⟨n2, nr2⟩ := and_e nr1
  obtain ⟨n3, nr3⟩ := and_e nr2
  have n4 := nr3
  obtain ⟨a1, ev1⟩ := exa_v n1
  have S1 := Sta.start ev1 (Or.inr ⟨(hw _ (List.mem_of_getElem? (i := 6) rfl)), (hw _ (List.mem_of_getElem? (i := 7) rfl))⟩)
  obtain ⟨a2, ev2⟩ := exa_v n2
  have S2 := Sta.start ev2 (Or.inr ⟨(hw _ (List.mem_of_getElem? (i := 6) rfl)), (hw _ (List.mem_of_getElem? (i := 40) rfl))⟩)
  have F1 := own_fldI ev1 n3
  have F2 := own_fldI ev2 n4
  obtain ⟨n, o, h1, h2, h3, _, L, rfl, ⟨rfl, N⟩, hq⟩ := rm0 l s _ hw i0 i1 i2 i3 a1 a2 s.heap s.heap.size (Nat.le_refl _) (F1.ne F2 (by decide)) S1 S2 _ _ rfl rfl (own_kinds _ _ _) (own_kinds _ _ _) tables_1 p e ha hc hk s m _ below hf ((Spec.applies_iff_loose hf).mp happ).1 ⟨rfl, State.Warmed39.refl s, rfl⟩ trivial
  refine ⟨n, _, h1, h2, h3, hpost _ _ _ _ _ _ ⟨Cond.after_iff.mpr rfl, Cond.after_iff.mpr (eq_i res_at (Term.int_eval (1)) rfl), trivial⟩ ⟨hq.1, hq.2.1, (hq.2.2.sift fun y hy => Or.inr (N y hy)).mono (by decide) (by decide)⟩⟩
theorem main_1_1 : Claimed_1_1 := comes_1 fun _ _ _ _ _ _ h hF => ⟨h.1, hF⟩
theorem main_1_2 : Claimed_1_2 := comes_1 fun _ _ _ _ _ _ h hF => ⟨h.2.1, hF⟩
end Jvm.Pilot.@@N@@
namespace Jvm.Pilot.@@N@@
open Jvm Jvm.ClassFile Sem Op Lib Jvm.Free Jvm.Stand Jvm.Pilot.@@N@@.Jvm.D
/-! MADE BY PROGRAM (witnessworld.py) out of the Statement's table words and the real class files: 14 classes; the members and pool entries that the words name. The judged class is class 1, her method 3. -/
namespace start1
open Jvm.ClassFile
def u (s : String) : CpInfo := .utf8 (stringToUtf16 s)
/-- a pool by its gaps: so many unusable entries, then the entry; so many at the end -/
def gap : Nat → List CpInfo → List CpInfo
  | 0, r => r
  | n + 1, r => .unusable :: gap n r
def poolList (es : List (Nat × CpInfo)) (last : Nat) : List CpInfo := es.foldr (fun e r => gap e.1 (e.2 :: r)) (gap last [])
def pool (es : List (Nat × CpInfo)) (last : Nat) : Array CpInfo := ⟨poolList es last⟩
def fileOf (pool : Array CpInfo) (this : Nat) (attrs : Array Attribute := #[]) (ms : Array MethodInfo := #[]) (fl : Nat := 33) (sup : Nat := 0) (ifs : Array Nat := #[]) (fds : Array FieldInfo := #[]) : ClassFile where
  minorVersion := 0
  majorVersion := 65
  constantPool := pool
  accessFlags := fl
  thisClass := this
  superClass := sup
  interfaces := ifs
  fields := fds
  methods := ms
  attributes := attrs
def plain (name : String) (sup : Option ClassId) : Class where
  name := name
  kind := .ordinary
  loader := none
  accessFlags := 33
  super := sup
  interfaces := #[]
  cf := none
  fields := #[]
  methods := #[]
  instanceTypes := #[]
  staticTypes := #[]
  resolved := #[]
  callSites := []
  init := .initialized
  statics := none
  mirror := none

def pool0 : Array CpInfo := pool [(5, u "<init>"), (0, u "()V"), (1, .class_ 10), (1, u "java/lang/Object")] 113

def k0c0 : Code := { maxStack := 0, maxLocals := 1, code := object_method_1_code, exceptionTable := #[], attributes := #[] }
def k0m0 : Method := { name := "<init>", desc := "()V", sig := { parameters := [], returnType := none }, accessFlags := 1, code := some k0c0 }
/-- java/lang/Object -/
def k0 : Class := { plain "java/lang/Object" none with
  accessFlags := 33
  interfaces := #[]
  cf := some (fileOf pool0 8 #[] #[{ accessFlags := 1, nameIndex := 5, descriptorIndex := 6, attributes := #[] }] 33 0 #[] #[])
  fields := #[]
  methods := #[k0m0]
  instanceTypes := #[]
  staticTypes := #[]
  resolved := Array.replicate 124 none
  statics := none }

def pool1 : Array CpInfo := pool [(2, .class_ 4), (1, u "java/lang/Object"), (0, u "<init>"), (0, u "()V"), (0, .integer 2147483647), (0, .fieldref 9 10), (0, .class_ 11), (0, .nameAndType 12 13), (0, u "com/example/skyledger/skyledger/SolarEvent"), (0, u "SUNRISE"), (0, u "Lcom/example/skyledger/skyledger/SolarEvent;"), (0, .fieldref 9 15), (0, .nameAndType 16 13), (0, u "SUNSET"), (0, .methodref 18 19), (0, .class_ 20), (0, .nameAndType 21 22), (0, u "com/example/skyledger/skyledger/TimeOfDayCanFollowOnItsDatePinLaw"), (0, u "kind"), (0, u "(I)Lcom/example/skyledger/skyledger/SolarEvent;"), (0, .class_ 24), (0, u "com/example/skyledger/skyledger/TimeOfDay"), (0, .methodref 23 26), (0, .nameAndType 5 27), (0, u "(ILcom/example/skyledger/skyledger/SolarEvent;)V"), (0, .methodref 18 29), (0, .nameAndType 30 31), (0, u "rank"), (0, u "(Lcom/example/skyledger/skyledger/SolarEvent;)I"), (0, .methodref 23 33), (0, .nameAndType 34 35), (0, u "canFollowOnItsDate"), (0, u "(Lcom/example/skyledger/skyledger/TimeOfDay;)Z"), (3, u "law"), (0, u "(IIII)Z")] 2

def k1m0 : Method := { name := "<init>", desc := "()V", sig := { parameters := [], returnType := none }, accessFlags := 2, code := none }
def k1c1 : Code := { maxStack := 2, maxLocals := 2, code := method_2_code, exceptionTable := #[], attributes := #[] }
def k1m1 : Method := { name := "kind", desc := "(I)Lcom/example/skyledger/skyledger/SolarEvent;", sig := { parameters := [.int], returnType := some (.object "com/example/skyledger/skyledger/SolarEvent") }, accessFlags := 10, code := some k1c1 }
def k1c2 : Code := { maxStack := 2, maxLocals := 1, code := method_3_code, exceptionTable := #[], attributes := #[] }
def k1m2 : Method := { name := "rank", desc := "(Lcom/example/skyledger/skyledger/SolarEvent;)I", sig := { parameters := [(.object "com/example/skyledger/skyledger/SolarEvent")], returnType := some .int }, accessFlags := 10, code := some k1c2 }
def k1c3 : Code := { maxStack := 4, maxLocals := 9, code := code, exceptionTable := #[], attributes := #[] }
def k1m3 : Method := { name := "law", desc := "(IIII)Z", sig := { parameters := [.int, .int, .int, .int], returnType := some .boolean }, accessFlags := 9, code := some k1c3 }
/-- com/example/skyledger/skyledger/TimeOfDayCanFollowOnItsDatePinLaw -/
def k1 : Class := { plain "com/example/skyledger/skyledger/TimeOfDayCanFollowOnItsDatePinLaw" (some 0) with
  accessFlags := 49
  interfaces := #[]
  cf := some (fileOf pool1 18 #[] #[{ accessFlags := 2, nameIndex := 5, descriptorIndex := 6, attributes := #[] }, { accessFlags := 10, nameIndex := 21, descriptorIndex := 22, attributes := #[] }, { accessFlags := 10, nameIndex := 30, descriptorIndex := 31, attributes := #[] }, { accessFlags := 9, nameIndex := 39, descriptorIndex := 40, attributes := #[] }] 49 2 #[] #[])
  fields := #[]
  methods := #[k1m0, k1m1, k1m2, k1m3]
  instanceTypes := #[]
  staticTypes := #[]
  resolved := Array.replicate 43 none
  statics := none }

def pool2 : Array CpInfo := pool [(1, .class_ 2), (0, u "java/lang/constant/Constable"), (0, .class_ 4), (0, u "java/lang/Object")] 6

/-- java/lang/constant/Constable -/
def k2 : Class := { plain "java/lang/constant/Constable" (some 0) with
  accessFlags := 1537
  interfaces := #[]
  cf := some (fileOf pool2 1 #[] #[] 1537 3 #[] #[])
  fields := #[]
  methods := #[]
  instanceTypes := #[]
  staticTypes := #[]
  resolved := Array.replicate 11 none
  statics := none }

def pool3 : Array CpInfo := pool [(1, .class_ 2), (0, u "java/lang/Comparable"), (0, .class_ 4), (0, u "java/lang/Object")] 7

/-- java/lang/Comparable -/
def k3 : Class := { plain "java/lang/Comparable" (some 0) with
  accessFlags := 1537
  interfaces := #[]
  cf := some (fileOf pool3 1 #[] #[] 1537 3 #[] #[])
  fields := #[]
  methods := #[]
  instanceTypes := #[]
  staticTypes := #[]
  resolved := Array.replicate 12 none
  statics := none }

def pool4 : Array CpInfo := pool [(1, .class_ 2), (0, u "java/io/Serializable"), (0, .class_ 4), (0, u "java/lang/Object")] 2

/-- java/io/Serializable -/
def k4 : Class := { plain "java/io/Serializable" (some 0) with
  accessFlags := 1537
  interfaces := #[]
  cf := some (fileOf pool4 1 #[] #[] 1537 3 #[] #[])
  fields := #[]
  methods := #[]
  instanceTypes := #[]
  staticTypes := #[]
  resolved := Array.replicate 7 none
  statics := none }

def pool5 : Array CpInfo := pool [(2, .class_ 4), (1, u "java/lang/Enum"), (0, u "name"), (0, u "Ljava/lang/String;"), (2, u "ordinal"), (0, u "I"), (1, .class_ 14), (1, u "java/lang/Object"), (4, u "hash"), (86, .class_ 108), (1, u "java/lang/Enum$EnumDesc"), (2, .class_ 112), (0, u "java/lang/constant/Constable"), (0, .class_ 114), (0, u "java/lang/Comparable"), (0, .class_ 116), (0, u "java/io/Serializable")] 87

/-- java/lang/Enum -/
def k5 : Class := { plain "java/lang/Enum" (some 0) with
  accessFlags := 1057
  interfaces := #[2, 3, 4]
  cf := some (fileOf pool5 2 #[.nestMembers #[106]] #[] 1057 12 #[111, 113, 115] #[{ accessFlags := 18, nameIndex := 5, descriptorIndex := 6, attributes := #[] }, { accessFlags := 18, nameIndex := 9, descriptorIndex := 10, attributes := #[] }, { accessFlags := 2, nameIndex := 19, descriptorIndex := 10, attributes := #[] }])
  fields := #[{ name := "name", type := (.object "java/lang/String"), accessFlags := 18, slot := 0, constantValue := 0 }, { name := "ordinal", type := .int, accessFlags := 18, slot := 1, constantValue := 0 }, { name := "hash", type := .int, accessFlags := 2, slot := 2, constantValue := 0 }]
  methods := #[]
  instanceTypes := #[(.object "java/lang/String"), .int, .int]
  staticTypes := #[]
  resolved := Array.replicate 204 none
  statics := none }

def pool6 : Array CpInfo := pool [(1, .class_ 2), (0, u "com/example/skyledger/skyledger/SolarEvent"), (2, u "SUNRISE"), (0, u "Lcom/example/skyledger/skyledger/SolarEvent;"), (2, u "SUNSET"), (2, u "$VALUES"), (0, u "[Lcom/example/skyledger/skyledger/SolarEvent;"), (6, .class_ 22), (1, u "java/lang/Enum"), (8, u "side"), (0, u "I"), (166, u "ALTITUDE"), (0, u "D"), (1, u "ROUNDS"), (1, u "UNIX_EPOCH"), (0, u "J2000"), (0, u "DAYS_PER_CENTURY"), (0, u "MINUTES_PER_DAY"), (0, u "MINUTES_PER_DEGREE"), (0, u "NOON"), (0, u "SECONDS_PER_MINUTE")] 16

/-- com/example/skyledger/skyledger/SolarEvent -/
def k6 : Class := { plain "com/example/skyledger/skyledger/SolarEvent" (some 5) with
  accessFlags := 16432
  interfaces := #[]
  cf := some (fileOf pool6 1 #[] #[] 16432 20 #[] #[{ accessFlags := 16409, nameIndex := 5, descriptorIndex := 6, attributes := #[] }, { accessFlags := 16409, nameIndex := 9, descriptorIndex := 6, attributes := #[] }, { accessFlags := 26, nameIndex := 199, descriptorIndex := 200, attributes := #[] }, { accessFlags := 26, nameIndex := 202, descriptorIndex := 32, attributes := #[] }, { accessFlags := 26, nameIndex := 204, descriptorIndex := 200, attributes := #[] }, { accessFlags := 26, nameIndex := 205, descriptorIndex := 200, attributes := #[] }, { accessFlags := 26, nameIndex := 206, descriptorIndex := 200, attributes := #[] }, { accessFlags := 26, nameIndex := 207, descriptorIndex := 200, attributes := #[] }, { accessFlags := 26, nameIndex := 208, descriptorIndex := 200, attributes := #[] }, { accessFlags := 26, nameIndex := 209, descriptorIndex := 200, attributes := #[] }, { accessFlags := 26, nameIndex := 210, descriptorIndex := 32, attributes := #[] }, { accessFlags := 18, nameIndex := 31, descriptorIndex := 32, attributes := #[] }, { accessFlags := 4122, nameIndex := 12, descriptorIndex := 13, attributes := #[] }])
  fields := #[{ name := "SUNRISE", type := (.object "com/example/skyledger/skyledger/SolarEvent"), accessFlags := 16409, slot := 0, constantValue := 0 }, { name := "SUNSET", type := (.object "com/example/skyledger/skyledger/SolarEvent"), accessFlags := 16409, slot := 1, constantValue := 0 }, { name := "ALTITUDE", type := .double, accessFlags := 26, slot := 2, constantValue := 0 }, { name := "ROUNDS", type := .int, accessFlags := 26, slot := 3, constantValue := 0 }, { name := "UNIX_EPOCH", type := .double, accessFlags := 26, slot := 4, constantValue := 0 }, { name := "J2000", type := .double, accessFlags := 26, slot := 5, constantValue := 0 }, { name := "DAYS_PER_CENTURY", type := .double, accessFlags := 26, slot := 6, constantValue := 0 }, { name := "MINUTES_PER_DAY", type := .double, accessFlags := 26, slot := 7, constantValue := 0 }, { name := "MINUTES_PER_DEGREE", type := .double, accessFlags := 26, slot := 8, constantValue := 0 }, { name := "NOON", type := .double, accessFlags := 26, slot := 9, constantValue := 0 }, { name := "SECONDS_PER_MINUTE", type := .int, accessFlags := 26, slot := 10, constantValue := 0 }, { name := "side", type := .int, accessFlags := 18, slot := 3, constantValue := 0 }, { name := "$VALUES", type := (.array (.object "com/example/skyledger/skyledger/SolarEvent")), accessFlags := 4122, slot := 11, constantValue := 0 }]
  methods := #[]
  instanceTypes := #[(.object "java/lang/String"), .int, .int, .int]
  staticTypes := #[(.object "com/example/skyledger/skyledger/SolarEvent"), (.object "com/example/skyledger/skyledger/SolarEvent"), .double, .int, .double, .double, .double, .double, .double, .double, .int, (.array (.object "com/example/skyledger/skyledger/SolarEvent"))]
  resolved := Array.replicate 227 none
  statics := some 0 }

def pool7 : Array CpInfo := pool [(1, .methodref 2 3), (0, .class_ 4), (0, .nameAndType 5 6), (0, u "java/lang/Object"), (0, u "<init>"), (0, u "()V"), (0, .class_ 8), (0, u "java/lang/Record")] 13

def k7c0 : Code := { maxStack := 1, maxLocals := 1, code := jdk_30_method_1_code, exceptionTable := #[], attributes := #[] }
def k7m0 : Method := { name := "<init>", desc := "()V", sig := { parameters := [], returnType := none }, accessFlags := 4, code := some k7c0 }
/-- java/lang/Record -/
def k7 : Class := { plain "java/lang/Record" (some 0) with
  accessFlags := 1057
  interfaces := #[]
  cf := some (fileOf pool7 7 #[] #[{ accessFlags := 4, nameIndex := 5, descriptorIndex := 6, attributes := #[] }] 1057 2 #[] #[])
  fields := #[]
  methods := #[k7m0]
  instanceTypes := #[]
  staticTypes := #[]
  resolved := Array.replicate 22 none
  statics := none }

def pool8 : Array CpInfo := pool [(1, .methodref 2 3), (0, .class_ 4), (0, .nameAndType 5 6), (0, u "java/lang/Record"), (0, u "<init>"), (0, u "()V"), (0, .fieldref 8 9), (0, .class_ 10), (0, .nameAndType 11 12), (0, u "com/example/skyledger/skyledger/TimeOfDay"), (0, u "minutes"), (0, u "I"), (0, .fieldref 8 14), (0, .nameAndType 15 16), (0, u "event"), (0, u "Lcom/example/skyledger/skyledger/SolarEvent;"), (17, .class_ 36), (1, u "com/example/skyledger/skyledger/SolarEvent"), (10, .methodref 8 48), (0, .nameAndType 15 49), (0, u "()Lcom/example/skyledger/skyledger/SolarEvent;"), (0, .methodref 8 51), (0, .nameAndType 11 52), (0, u "()I"), (0, .fieldref 34 54), (0, .nameAndType 55 16), (0, u "SUNRISE"), (0, .fieldref 34 57), (0, .nameAndType 58 16), (0, u "SUNSET"), (12, u "SECONDS_PER_MINUTE"), (2, u "(ILcom/example/skyledger/skyledger/SolarEvent;)V"), (5, u "canFollowOnItsDate"), (0, u "(Lcom/example/skyledger/skyledger/TimeOfDay;)Z")] 23

def k8c0 : Code := { maxStack := 2, maxLocals := 3, code := prog_66_method_1_code, exceptionTable := #[], attributes := #[] }
def k8m0 : Method := { name := "<init>", desc := "(ILcom/example/skyledger/skyledger/SolarEvent;)V", sig := { parameters := [.int, (.object "com/example/skyledger/skyledger/SolarEvent")], returnType := none }, accessFlags := 0, code := some k8c0 }
def k8c1 : Code := { maxStack := 2, maxLocals := 3, code := prog_66_method_3_code, exceptionTable := #[], attributes := #[] }
def k8m1 : Method := { name := "canFollowOnItsDate", desc := "(Lcom/example/skyledger/skyledger/TimeOfDay;)Z", sig := { parameters := [(.object "com/example/skyledger/skyledger/TimeOfDay")], returnType := some .boolean }, accessFlags := 0, code := some k8c1 }
def k8c2 : Code := { maxStack := 1, maxLocals := 1, code := prog_66_method_7_code, exceptionTable := #[], attributes := #[] }
def k8m2 : Method := { name := "minutes", desc := "()I", sig := { parameters := [], returnType := some .int }, accessFlags := 1, code := some k8c2 }
def k8c3 : Code := { maxStack := 1, maxLocals := 1, code := prog_66_method_8_code, exceptionTable := #[], attributes := #[] }
def k8m3 : Method := { name := "event", desc := "()Lcom/example/skyledger/skyledger/SolarEvent;", sig := { parameters := [], returnType := some (.object "com/example/skyledger/skyledger/SolarEvent") }, accessFlags := 1, code := some k8c3 }
/-- com/example/skyledger/skyledger/TimeOfDay -/
def k8 : Class := { plain "com/example/skyledger/skyledger/TimeOfDay" (some 7) with
  accessFlags := 48
  interfaces := #[]
  cf := some (fileOf pool8 8 #[] #[{ accessFlags := 0, nameIndex := 5, descriptorIndex := 74, attributes := #[] }, { accessFlags := 0, nameIndex := 80, descriptorIndex := 81, attributes := #[] }, { accessFlags := 1, nameIndex := 11, descriptorIndex := 52, attributes := #[] }, { accessFlags := 1, nameIndex := 15, descriptorIndex := 49, attributes := #[] }] 48 2 #[] #[{ accessFlags := 18, nameIndex := 11, descriptorIndex := 12, attributes := #[] }, { accessFlags := 18, nameIndex := 15, descriptorIndex := 16, attributes := #[] }, { accessFlags := 26, nameIndex := 71, descriptorIndex := 12, attributes := #[] }])
  fields := #[{ name := "minutes", type := .int, accessFlags := 18, slot := 0, constantValue := 0 }, { name := "event", type := (.object "com/example/skyledger/skyledger/SolarEvent"), accessFlags := 18, slot := 1, constantValue := 0 }, { name := "SECONDS_PER_MINUTE", type := .int, accessFlags := 26, slot := 0, constantValue := 0 }]
  methods := #[k8m0, k8m1, k8m2, k8m3]
  instanceTypes := #[.int, (.object "com/example/skyledger/skyledger/SolarEvent")]
  staticTypes := #[.int]
  resolved := Array.replicate 105 none
  statics := none }

def pool9 : Array CpInfo := pool [(1, u "java/lang/Cloneable"), (0, .class_ 1), (0, u "java/lang/Object"), (0, .class_ 3)] 3

/-- java/lang/Cloneable -/
def k9 : Class := { plain "java/lang/Cloneable" (some 0) with
  accessFlags := 1537
  interfaces := #[]
  cf := some (fileOf pool9 2 #[] #[] 1537 4 #[] #[])
  fields := #[]
  methods := #[]
  instanceTypes := #[]
  staticTypes := #[]
  resolved := Array.replicate 8 none
  statics := none }

/-- the primitive byte -/
def k10 : Class := { plain "byte" none with kind := .primitive 'B', accessFlags := 0x411 }
/-- [B -/
def k11 : Class := { plain "[B" (some 0) with kind := .array 10 .byte, interfaces := #[9, 4], accessFlags := 1041 }

/-- the primitive int -/
def k12 : Class := { plain "int" none with kind := .primitive 'I', accessFlags := 0x411 }
/-- [I -/
def k13 : Class := { plain "[I" (some 0) with kind := .array 12 .int, interfaces := #[9, 4], accessFlags := 1041 }

def heap : Heap := #[{ cls := 6, slots := #[.ref 1, .ref 2, .double 0, .int 0, .double 0, .double 0, .double 0, .double 0, .double 0, .double 0, .int 0, .null], vm := .statics 6 },
  { cls := 6, slots := #[.null, .int 0, .int 0, .int 0], vm := .none },
  { cls := 6, slots := #[.null, .int 1, .int 0, .int 0], vm := .none }]
def classes : Array Class := #[k0, k1, k2, k3, k4, k5, k6, k7, k8, k9, k10, k11, k12, k13]
def interned : List (Array UInt16 × Addr) := []
def slotsUsed : Nat := 20
def theMethod : MethodId := ⟨1, 3⟩
def args0 : Array Value := #[.int 5, .int 1, .int 7, .int 2]
def aboutOver (below : List Frame) : State where
  vm := { classes := classes, interned := interned.toArray }
  heap := heap
  slotsUsed := slotsUsed
  threads := #[{ frames := .invoking theMethod args0 :: below }]
def below0 : List Frame := [.native { method := ⟨0, 0⟩, args := #[] }]
def about1 : State := aboutOver below0
def p0 : Program := .bare "" "" ""
def e0 : Env := launch0.env 0 0 0
theorem w_frames : about1.frames = Frame.invoking theMethod args0 :: below0 := rfl
set_option maxRecDepth 65536 in
theorem w_args : argsFit about1.vm theMethod args0 = true := by decide +kernel
set_option maxRecDepth 65536 in
theorem w_heap : heapFits about1 = true := by decide +kernel
set_option maxRecDepth 65536 in
theorem w_runnable : about1.curStatus? = some .runnable := by decide +kernel
set_option maxRecDepth 65536 in
theorem w_alone : about1.alone = true := by decide +kernel
set_option maxRecDepth 65536 in
theorem w_named : about1.methodNamed? x = some theMethod := by decide +kernel
set_option maxRecDepth 65536 in
theorem w_hears : about1.hears theMethod below0 = true := by decide +kernel
set_option maxRecDepth 65536 in
theorem w_ripe : about1.ripe theMethod args0 below0 = true := by decide +kernel
theorem w_running : about1.status = .running := rfl
set_option maxRecDepth 65536 in
theorem w_room : about1.hasRoom e0.platform room_1 = true :=
  launch0.hasRoom_least _ room_1 (by decide +kernel) (by decide +kernel) (by decide +kernel) (by decide +kernel) (by decide +kernel) (by decide +kernel)
theorem allAtoms_all (ts : List Jvm.Cond) (a : Array Jvm.Value) (st : Jvm.State) : (allAtoms ts).before a st = ts.all (fun c => c.before a st) := by
  induction ts with
  | nil => rfl
  | cons c t ih =>
    show (Jvm.Cond.and c (allAtoms t)).before a st = _
    rw [Jvm.Cond.before_and, ih, List.all_cons]
def words1 : List Jvm.Cond := Jvm.Cond.code x code maxLocals ret :: tables_1
/-- a 'code' word, met by the world's own term for the bytes: nothing is compared byte by byte -/
theorem code_word {y : MethodName} {bytes : ByteArray} {mx : Nat} {rt : Option FieldType} {a : Array Value} {s : State} {m : MethodId} {meth : Method} {c : Code} (h1 : s.methodNamed? y = some m) (h2 : s.vm.method? m = some meth) (h3 : meth.code = some c) (h4 : c.code = bytes)
    (h5 : (c.maxLocals == mx && c.exceptionTable.isEmpty && decide (c.maxStack ≤ mostOperands) && decide (meth.sig.returnType = rt) && !meth.locks && decide (parseMethodDescriptor y.desc = some meth.sig)) = true) : (Jvm.Cond.code y bytes mx rt).before a s = true := by
  simp only [Bool.and_eq_true, beq_iff_eq, Bool.not_eq_true', decide_eq_true_eq] at h5
  obtain ⟨⟨⟨⟨⟨g1, g2⟩, g3⟩, g4⟩, g5⟩, g6⟩ := h5
  simp [Cond.before, Cond.holds, Cond.value, h1, h2, h3, h4, g1, g2, g3, g4, g5, g6]
def isCode : Jvm.Cond → Bool
  | .code _ _ _ _ => true
  | _ => false
theorem all_split {L : List Jvm.Cond} {P : Jvm.Cond → Bool} (h1 : L.all (fun c => isCode c || P c) = true) (h2 : ∀ c ∈ L.filter isCode, P c = true) : L.all P = true := by
  refine List.all_eq_true.mpr fun c hc => ?_
  have h := List.all_eq_true.mp h1 c hc
  rcases Bool.eq_false_or_eq_true (isCode c) with hi | hi
  · exact h2 c (List.mem_filter.mpr ⟨hc, hi⟩)
  · simpa [hi] using h
set_option maxRecDepth 65536 in
theorem w_c0 : (Jvm.Cond.code x code maxLocals ret).before args0 about1 = true := code_word (m := ⟨1, 3⟩) (meth := k1m3) (c := k1c3) (by decide +kernel) rfl rfl rfl (by decide +kernel)
set_option maxRecDepth 65536 in
theorem w_c1 : (Jvm.Cond.code ({ cls := "com/example/skyledger/skyledger/TimeOfDayCanFollowOnItsDatePinLaw", name := "kind", desc := "(I)Lcom/example/skyledger/skyledger/SolarEvent;" } : Jvm.MethodName) method_2_code (2 : Nat) (Option.some (Jvm.ClassFile.FieldType.object "com/example/skyledger/skyledger/SolarEvent"))).before args0 about1 = true := code_word (m := ⟨1, 1⟩) (meth := k1m1) (c := k1c1) (by decide +kernel) rfl rfl rfl (by decide +kernel)
set_option maxRecDepth 65536 in
theorem w_c2 : (Jvm.Cond.code ({ cls := "com/example/skyledger/skyledger/TimeOfDay", name := "<init>", desc := "(ILcom/example/skyledger/skyledger/SolarEvent;)V" } : Jvm.MethodName) prog_66_method_1_code (3 : Nat) (Option.none : Option Jvm.ClassFile.FieldType)).before args0 about1 = true := code_word (m := ⟨8, 0⟩) (meth := k8m0) (c := k8c0) (by decide +kernel) rfl rfl rfl (by decide +kernel)
set_option maxRecDepth 65536 in
theorem w_c3 : (Jvm.Cond.code ({ cls := "java/lang/Record", name := "<init>", desc := "()V" } : Jvm.MethodName) jdk_30_method_1_code (1 : Nat) (Option.none : Option Jvm.ClassFile.FieldType)).before args0 about1 = true := code_word (m := ⟨7, 0⟩) (meth := k7m0) (c := k7c0) (by decide +kernel) rfl rfl rfl (by decide +kernel)
set_option maxRecDepth 65536 in
theorem w_c4 : (Jvm.Cond.code ({ cls := "java/lang/Object", name := "<init>", desc := "()V" } : Jvm.MethodName) object_method_1_code (1 : Nat) (Option.none : Option Jvm.ClassFile.FieldType)).before args0 about1 = true := code_word (m := ⟨0, 0⟩) (meth := k0m0) (c := k0c0) (by decide +kernel) rfl rfl rfl (by decide +kernel)
set_option maxRecDepth 65536 in
theorem w_c5 : (Jvm.Cond.code ({ cls := "com/example/skyledger/skyledger/TimeOfDay", name := "canFollowOnItsDate", desc := "(Lcom/example/skyledger/skyledger/TimeOfDay;)Z" } : Jvm.MethodName) prog_66_method_3_code (3 : Nat) (Option.some Jvm.ClassFile.FieldType.boolean)).before args0 about1 = true := code_word (m := ⟨8, 1⟩) (meth := k8m1) (c := k8c1) (by decide +kernel) rfl rfl rfl (by decide +kernel)
set_option maxRecDepth 65536 in
theorem w_c6 : (Jvm.Cond.code ({ cls := "com/example/skyledger/skyledger/TimeOfDay", name := "event", desc := "()Lcom/example/skyledger/skyledger/SolarEvent;" } : Jvm.MethodName) prog_66_method_8_code (1 : Nat) (Option.some (Jvm.ClassFile.FieldType.object "com/example/skyledger/skyledger/SolarEvent"))).before args0 about1 = true := code_word (m := ⟨8, 3⟩) (meth := k8m3) (c := k8c3) (by decide +kernel) rfl rfl rfl (by decide +kernel)
set_option maxRecDepth 65536 in
theorem w_c7 : (Jvm.Cond.code ({ cls := "com/example/skyledger/skyledger/TimeOfDayCanFollowOnItsDatePinLaw", name := "rank", desc := "(Lcom/example/skyledger/skyledger/SolarEvent;)I" } : Jvm.MethodName) method_3_code (1 : Nat) (Option.some Jvm.ClassFile.FieldType.int)).before args0 about1 = true := code_word (m := ⟨1, 2⟩) (meth := k1m2) (c := k1c2) (by decide +kernel) rfl rfl rfl (by decide +kernel)
set_option maxRecDepth 65536 in
theorem w_c8 : (Jvm.Cond.code ({ cls := "com/example/skyledger/skyledger/TimeOfDay", name := "minutes", desc := "()I" } : Jvm.MethodName) prog_66_method_7_code (1 : Nat) (Option.some Jvm.ClassFile.FieldType.int)).before args0 about1 = true := code_word (m := ⟨8, 2⟩) (meth := k8m2) (c := k8c2) (by decide +kernel) rfl rfl rfl (by decide +kernel)
def codes1 : List Jvm.Cond := [Jvm.Cond.code x code maxLocals ret, Jvm.Cond.code ({ cls := "com/example/skyledger/skyledger/TimeOfDayCanFollowOnItsDatePinLaw", name := "kind", desc := "(I)Lcom/example/skyledger/skyledger/SolarEvent;" } : Jvm.MethodName) method_2_code (2 : Nat) (Option.some (Jvm.ClassFile.FieldType.object "com/example/skyledger/skyledger/SolarEvent")), Jvm.Cond.code ({ cls := "com/example/skyledger/skyledger/TimeOfDay", name := "<init>", desc := "(ILcom/example/skyledger/skyledger/SolarEvent;)V" } : Jvm.MethodName) prog_66_method_1_code (3 : Nat) (Option.none : Option Jvm.ClassFile.FieldType), Jvm.Cond.code ({ cls := "java/lang/Record", name := "<init>", desc := "()V" } : Jvm.MethodName) jdk_30_method_1_code (1 : Nat) (Option.none : Option Jvm.ClassFile.FieldType), Jvm.Cond.code ({ cls := "java/lang/Object", name := "<init>", desc := "()V" } : Jvm.MethodName) object_method_1_code (1 : Nat) (Option.none : Option Jvm.ClassFile.FieldType), Jvm.Cond.code ({ cls := "com/example/skyledger/skyledger/TimeOfDay", name := "canFollowOnItsDate", desc := "(Lcom/example/skyledger/skyledger/TimeOfDay;)Z" } : Jvm.MethodName) prog_66_method_3_code (3 : Nat) (Option.some Jvm.ClassFile.FieldType.boolean), Jvm.Cond.code ({ cls := "com/example/skyledger/skyledger/TimeOfDay", name := "event", desc := "()Lcom/example/skyledger/skyledger/SolarEvent;" } : Jvm.MethodName) prog_66_method_8_code (1 : Nat) (Option.some (Jvm.ClassFile.FieldType.object "com/example/skyledger/skyledger/SolarEvent")), Jvm.Cond.code ({ cls := "com/example/skyledger/skyledger/TimeOfDayCanFollowOnItsDatePinLaw", name := "rank", desc := "(Lcom/example/skyledger/skyledger/SolarEvent;)I" } : Jvm.MethodName) method_3_code (1 : Nat) (Option.some Jvm.ClassFile.FieldType.int), Jvm.Cond.code ({ cls := "com/example/skyledger/skyledger/TimeOfDay", name := "minutes", desc := "()I" } : Jvm.MethodName) prog_66_method_7_code (1 : Nat) (Option.some Jvm.ClassFile.FieldType.int)]
set_option maxRecDepth 65536 in
theorem codes_eq : words1.filter isCode = codes1 := rfl
theorem w_codes : ∀ c ∈ words1.filter isCode, c.before args0 about1 = true := by
  rw [codes_eq]
  intro c hc
  simp only [codes1, List.mem_cons, List.not_mem_nil, or_false] at hc
  rcases hc with rfl | rfl | rfl | rfl | rfl | rfl | rfl | rfl | rfl
  · exact w_c0
  · exact w_c1
  · exact w_c2
  · exact w_c3
  · exact w_c4
  · exact w_c5
  · exact w_c6
  · exact w_c7
  · exact w_c8
set_option maxRecDepth 65536 in
theorem w_t1 : (words1.take 24).all (fun c => isCode c || c.before args0 about1) = true := by decide +kernel
set_option maxRecDepth 65536 in
theorem w_t2 : ((words1.drop 24).take 24).all (fun c => isCode c || c.before args0 about1) = true := by decide +kernel
set_option maxRecDepth 65536 in
theorem w_t3 : ((words1.drop 24).drop 24).all (fun c => isCode c || c.before args0 about1) = true := by decide +kernel
theorem w_tables : (allAtoms (Jvm.Cond.code x code maxLocals ret :: tables_1)).before args0 about1 = true := by
  rw [allAtoms_all]
  show words1.all (fun c => c.before args0 about1) = true
  refine all_split ?_ w_codes
  rw [← List.take_append_drop 24 words1, List.all_append, w_t1, ← List.take_append_drop 24 (words1.drop 24), List.all_append, w_t2, w_t3]
  rfl
set_option maxRecDepth 65536 in
theorem w_case : (Jvm.Cond.and given_1 narrow_1).before args0 about1 = true := by decide +kernel
theorem w_applies : (headSpec (Jvm.Cond.code x code maxLocals ret :: tables_1) room_1).applies x e0.platform about1 = true :=
  (Spec.applies_iff w_frames).mpr ⟨w_running, w_runnable, w_alone, w_named, w_hears, w_ripe, w_room, w_tables⟩
theorem atStart : AtStart classFile x code maxLocals ret World_1 tables_1 room_1 Calls_1 rest_1 Pre_1 launch0 p0 e0 about1 theMethod args0 below0 :=
  ⟨lists_1, trivial, launch0.admits_env _ _ _, launch0.least_env, fairChoices_fair.cas, fairChoices_fair.clock, w_frames, w_args, w_heap, w_applies, trivial, trivial, w_case⟩
end start1
theorem witness_1 : WitnessClaimed_1 := ⟨start1.p0, start1.e0, start1.about1, start1.theMethod, start1.args0, start1.below0, start1.atStart⟩
end Jvm.Pilot.@@N@@
