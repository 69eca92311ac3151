import JvmDerived
import JvmDerived.Pilot.@@N@@Statement
import JvmDerived.Pilot.@@N@@Code
set_option linter.unusedVariables false
set_option linter.unusedSimpArgs false
namespace Jvm.Pilot.@@N@@
open Jvm Jvm.ClassFile Sem Op Lib Jvm.Free Jvm.Stand Jvm.LawKit Jvm.RoadKit Bundle Jvm.Pilot.@@N@@.Jvm.D
section OwnKit
variable {p : Program} {l : Launch} {e : Env} {R : Room} {s : State} {m : MethodId} {args : Array Value} {below : List Frame} {meth : Method} {c : Code} {T : State} {locs : List Loc} {cells slots : Nat} {Z : State} {a0 : Array Value} {h : Heap} {W : State → Prop} {pc q : Nat} {Ls : Array Slot} {St : List Value}
/-- the run comes from S to an end of which W holds -/
def Go (p : Program) (e : Env) (below : List Frame) (W : State → Prop) (S : State) : Prop := ∃ U, Steps p.tables e below S U ∧ W U
theorem Go.on {S S' : State} (k : ∀ t, Steps p.tables e below S' t → Steps p.tables e below S t) (h : Go p e below W S') : Go p e below W S := by
  obtain ⟨U, h1, h2⟩ := h; exact ⟨U, k U h1, h2⟩
/-- what a body must leave -/
def Wd (s : State) (below : List Frame) (Q : Option Value → Heap → List Loc → Prop) (k n : Nat) (U : State) : Prop := U.status = .running ∧ ∃ v, Ended U below (.returned v) ∧ ∃ L, Q v U.heap L ∧ FrameEnd s (.returned v) U L k n
/-- a body's contract: from the heap h0 and the arguments as' it returns as Q says -/
def Con (l : Launch) (Z : State) (h0 : Heap) (y : MethodName) (bytes : ByteArray) (ml : Nat) (ret : Option FieldType) (rm : Room) (as' : Array Value) (Q : Option Value → Heap → List Loc → Prop) : Prop :=
  ∀ ws : List Jvm.Cond, MetFree l y (head1 (Jvm.Cond.code y bytes ml ret :: ws) rm) (fun a U => a = as' ∧ Z.Warmed39 U.vm ∧ U.heap = h0) (fun _ _ _ _ _ => True) (fun _ U o U' => ∃ v L, o = .returned v ∧ Q v U'.heap L ∧ FrameEnd U o U' L rm.cells rm.slots)
/-- it returns V and touches nothing -/
def Pur (V : Option Value) (h0 : Heap) (v : Option Value) (h : Heap) (L : List Loc) : Prop := v = V ∧ L = [] ∧ h = h0
theorem con_of {h0 : Heap} {y : MethodName} {bytes : ByteArray} {ml : Nat} {ret : Option FieldType} {rm : Room} {as' : Array Value} {Q : Option Value → Heap → List Loc → Prop} (hpl : plainFor y = true) {Ls : Array Slot}
    (hef : ∀ m : MethodId, entryFrame m as' ml = mkF m 0 Ls [])
    (body : ∀ (p : Program) (e : Env) (s : State) (m : MethodId) (below : List Frame) (meth : Method) (c : Code) (s₁ : State), p.tables.exec = Jvm.exec → Z.Warmed39 s.vm → c.code = bytes → c.maxLocals = ml → meth.sig.returnType = ret → meth.locks = false → meth.name = y.name → s.vm.findClass y.cls = some m.cls →
      Stand p l e rm s m as' below meth c s₁ [] 0 0 → s₁.heap = h0 → Go p e below (Wd s below Q rm.cells rm.slots) (s₁.setTop (mkF m 0 Ls []))) : Con l Z h0 y bytes ml ret rm as' Q := by
  intro ws
  refine MetFree.of_bodySF hpl hisR ?_
  intro p e s m args below meth c s₁ Bd hml0 hP hK
  obtain ⟨rfl, hZ, hh⟩ := hP
  obtain ⟨U, h1, h2, v, h3, L, h4, h5⟩ := body p e s m below meth c s₁ Bd.exec hZ Bd.bytes hml0 Bd.returns Bd.notSynchronized (name_of_methodNamed Bd.named Bd.method).1 (findClass_of_methodNamed Bd.named) (Stand.of_body Bd) (by rw [← hh, Bd.state]; rfl)
  rw [← hef] at h1
  exact ⟨U, _, h1, h2, h3, v, L, rfl, h4, h5⟩
theorem g_leave (X : Stand p l e R s m args below meth c T locs cells slots) {v : Option Value} (hv : meth.sig.returnType = none → v = none) (hlk : meth.locks = false) {S : State} {Q : Option Value → Heap → List Loc → Prop} {k n : Nat}
    (st : ∀ fs, (∀ (f : JFrame) (acts : List Action), f.method = m → f.locked = none → f.entered = [] → (doReturn e (T.setTop f) acts v).1 = T.setFrames fs) → Steps p.tables e below S (T.setFrames fs))
    (hQ : Q v T.heap locs) (hk : cells ≤ k) (hn : slots ≤ n) : Go p e below (Wd s below Q k n) S := by
  obtain ⟨fs, hr, hrun, hended, hW, hsame⟩ := X.leave (v := v) hv hlk
  exact ⟨_, st fs hr, hrun, v, hended, locs, hQ, ⟨_, rfl⟩, hW, hsame.mono hk hn⟩
section Leaves
variable {Q : Option Value → Heap → List Loc → Prop} {k n : Nat}
theorem g_retZ (X : Stand p l e R s m args below meth c T locs cells slots) (hx : p.tables.exec = Jvm.exec) {t : FieldType} {z : Int32} (hret : meth.sig.returnType = some t) (hlk : meth.locks = false) (hd : decode c.code pc = .ok (.ireturn, 1)) (ht : t = .int ∨ t = .boolean ∨ t = .byte ∨ t = .char ∨ t = .short) (hn' : narrow t (.int z) = .int z)
    (hQ : Q (some (.int z)) T.heap locs) (hk : cells ≤ k) (hn : slots ≤ n) : Go p e below (Wd s below Q k n) (T.setTop (mkF m pc Ls (.int z :: St))) :=
  g_leave X (fun h => by rw [hret] at h; cases h) hlk (fun fs hr => retOut X hx hret hn' (Or.inl ⟨rfl, ht, z, rfl⟩) hd hr) hQ hk hn
theorem g_retI (X : Stand p l e R s m args below meth c T locs cells slots) (hx : p.tables.exec = Jvm.exec) {z : Int32} (hret : meth.sig.returnType = some .int) (hlk : meth.locks = false) (hd : decode c.code pc = .ok (.ireturn, 1))
    (hQ : Q (some (.int z)) T.heap locs) (hk : cells ≤ k) (hn : slots ≤ n) : Go p e below (Wd s below Q k n) (T.setTop (mkF m pc Ls (.int z :: St))) :=
  g_retZ X hx hret hlk hd (Or.inl rfl) rfl hQ hk hn
theorem g_retB (X : Stand p l e R s m args below meth c T locs cells slots) (hx : p.tables.exec = Jvm.exec) {z : Int32} (hret : meth.sig.returnType = some .boolean) (hlk : meth.locks = false) (hd : decode c.code pc = .ok (.ireturn, 1)) (hz : z = 0 ∨ z = 1)
    (hQ : Q (some (.int z)) T.heap locs) (hk : cells ≤ k) (hn : slots ≤ n) : Go p e below (Wd s below Q k n) (T.setTop (mkF m pc Ls (.int z :: St))) :=
  g_retZ X hx hret hlk hd (Or.inr (Or.inl rfl)) (by rcases hz with rfl | rfl <;> rfl) hQ hk hn
theorem g_retJ (X : Stand p l e R s m args below meth c T locs cells slots) (hx : p.tables.exec = Jvm.exec) {z : Int64} (hret : meth.sig.returnType = some .long) (hlk : meth.locks = false) (hd : decode c.code pc = .ok (.lreturn, 1))
    (hQ : Q (some (.long z)) T.heap locs) (hk : cells ≤ k) (hn : slots ≤ n) : Go p e below (Wd s below Q k n) (T.setTop (mkF m pc Ls (.long z :: St))) :=
  g_leave X (fun h => by rw [hret] at h; cases h) hlk (fun fs hr => retOut X hx hret rfl (Or.inr (Or.inl ⟨rfl, rfl, z, rfl⟩)) hd hr) hQ hk hn
theorem g_retA (X : Stand p l e R s m args below meth c T locs cells slots) (hx : p.tables.exec = Jvm.exec) {t : FieldType} {w : Value} (hret : meth.sig.returnType = some t) (hlk : meth.locks = false) (hd : decode c.code pc = .ok (.areturn, 1)) (ht : t.isReference = true) (hw : w.isRef = true) (hn' : narrow t w = w)
    (hQ : Q (some w) T.heap locs) (hk : cells ≤ k) (hn : slots ≤ n) : Go p e below (Wd s below Q k n) (T.setTop (mkF m pc Ls (w :: St))) :=
  g_leave X (fun h => by rw [hret] at h; cases h) hlk (fun fs hr => retOut X hx hret hn' (Or.inr (Or.inr (Or.inr (Or.inr ⟨rfl, ht, hw⟩)))) hd hr) hQ hk hn
theorem g_retV (X : Stand p l e R s m args below meth c T locs cells slots) (hx : p.tables.exec = Jvm.exec) (hret : meth.sig.returnType = none) (hlk : meth.locks = false) (hd : decode c.code pc = .ok (.return_, 1))
    (hQ : Q none T.heap locs) (hk : cells ≤ k) (hn : slots ≤ n) : Go p e below (Wd s below Q k n) (T.setTop (mkF m pc Ls [])) :=
  g_leave X (fun _ => rfl) hlk (fun fs hr => X.returnOut hx hret hd hr) hQ hk hn
end Leaves
section Plain
theorem g_iload (X : Stand p l e R s m args below meth c T locs cells slots) (hx : p.tables.exec = Jvm.exec) {k : Nat} {v : Int32} (hd : decode c.code pc = .ok (.iload k, 2)) (hl : Ls[k]? = some (.val (.int v))) (hq : pc + 2 = q) (G : Go p e below W (T.setTop (mkF m q Ls (.int v :: St)))) : Go p e below W (T.setTop (mkF m pc Ls St)) := by
  subst hq; exact G.on fun t k' => XS.iload X.here hx rfl hd hl k'
theorem g_lload (X : Stand p l e R s m args below meth c T locs cells slots) (hx : p.tables.exec = Jvm.exec) {k : Nat} {v : Int64} (hd : decode c.code pc = .ok (.lload k, 2)) (hl : Ls[k]? = some (.val (.long v))) (hq : pc + 2 = q) (G : Go p e below W (T.setTop (mkF m q Ls (.long v :: St)))) : Go p e below W (T.setTop (mkF m pc Ls St)) := by
  subst hq; exact G.on fun t k' => XS.lload X.here hx rfl hd hl k'
theorem g_aload (X : Stand p l e R s m args below meth c T locs cells slots) (hx : p.tables.exec = Jvm.exec) {k : Nat} {v : Value} (hd : decode c.code pc = .ok (.aload k, 2)) (hl : Ls[k]? = some (.val v)) (hv : v.isRef = true) (hq : pc + 2 = q) (G : Go p e below W (T.setTop (mkF m q Ls (v :: St)))) : Go p e below W (T.setTop (mkF m pc Ls St)) := by
  subst hq; exact G.on fun t k' => XS.aload X.here hx rfl hd hl hv k'
theorem g_istore (X : Stand p l e R s m args below meth c T locs cells slots) (hx : p.tables.exec = Jvm.exec) {k : Nat} {x : Int32} {L' : Array Slot} (hd : decode c.code pc = .ok (.istore k, 2)) (hl : storeLocals Ls k (.int x) = some L') (hq : pc + 2 = q) (G : Go p e below W (T.setTop (mkF m q L' St))) : Go p e below W (T.setTop (mkF m pc Ls (.int x :: St))) := by
  subst hq; exact G.on fun t k' => XS.istore X.here hx rfl hd rfl hl k'
theorem g_lstore (X : Stand p l e R s m args below meth c T locs cells slots) (hx : p.tables.exec = Jvm.exec) {k : Nat} {x : Int64} {L' : Array Slot} (hd : decode c.code pc = .ok (.lstore k, 2)) (hl : storeLocals Ls k (.long x) = some L') (hq : pc + 2 = q) (G : Go p e below W (T.setTop (mkF m q L' St))) : Go p e below W (T.setTop (mkF m pc Ls (.long x :: St))) := by
  subst hq; exact G.on fun t k' => XS.lstore X.here hx rfl hd rfl hl k'
theorem g_astore (X : Stand p l e R s m args below meth c T locs cells slots) (hx : p.tables.exec = Jvm.exec) {k : Nat} {x : Value} {L' : Array Slot} (hd : decode c.code pc = .ok (.astore k, 2)) (hv : x.isRef = true) (hl : storeLocals Ls k x = some L') (hq : pc + 2 = q) (G : Go p e below W (T.setTop (mkF m q L' St))) : Go p e below W (T.setTop (mkF m pc Ls (x :: St))) := by
  subst hq; exact G.on fun t k' => XS.astore X.here hx rfl hd rfl hv hl k'
theorem g_iloadN (X : Stand p l e R s m args below meth c T locs cells slots) (hx : p.tables.exec = Jvm.exec) {k : Fin 4} {v : Int32} (hd : decode c.code pc = .ok (.iload_n k, 1)) (hl : Ls[k.val]? = some (.val (.int v))) (hq : pc + 1 = q) (G : Go p e below W (T.setTop (mkF m q Ls (.int v :: St)))) : Go p e below W (T.setTop (mkF m pc Ls St)) := by
  subst hq; exact G.on fun t k' => XS.iloadN X.here hx rfl hd hl k'
theorem g_lloadN (X : Stand p l e R s m args below meth c T locs cells slots) (hx : p.tables.exec = Jvm.exec) {k : Fin 4} {v : Int64} (hd : decode c.code pc = .ok (.lload_n k, 1)) (hl : Ls[k.val]? = some (.val (.long v))) (hq : pc + 1 = q) (G : Go p e below W (T.setTop (mkF m q Ls (.long v :: St)))) : Go p e below W (T.setTop (mkF m pc Ls St)) := by
  subst hq; exact G.on fun t k' => XS.lloadN X.here hx rfl hd hl k'
theorem g_aloadN (X : Stand p l e R s m args below meth c T locs cells slots) (hx : p.tables.exec = Jvm.exec) {k : Fin 4} {v : Value} (hd : decode c.code pc = .ok (.aload_n k, 1)) (hl : Ls[k.val]? = some (.val v)) (hv : v.isRef = true) (hq : pc + 1 = q) (G : Go p e below W (T.setTop (mkF m q Ls (v :: St)))) : Go p e below W (T.setTop (mkF m pc Ls St)) := by
  subst hq; exact G.on fun t k' => XS.aloadN X.here hx rfl hd hl hv k'
theorem g_istoreN (X : Stand p l e R s m args below meth c T locs cells slots) (hx : p.tables.exec = Jvm.exec) {k : Fin 4} {x : Int32} {L' : Array Slot} (hd : decode c.code pc = .ok (.istore_n k, 1)) (hl : storeLocals Ls k.val (.int x) = some L') (hq : pc + 1 = q) (G : Go p e below W (T.setTop (mkF m q L' St))) : Go p e below W (T.setTop (mkF m pc Ls (.int x :: St))) := by
  subst hq; exact G.on fun t k' => XS.istoreN X.here hx rfl hd rfl hl k'
theorem g_lstoreN (X : Stand p l e R s m args below meth c T locs cells slots) (hx : p.tables.exec = Jvm.exec) {k : Fin 4} {x : Int64} {L' : Array Slot} (hd : decode c.code pc = .ok (.lstore_n k, 1)) (hl : storeLocals Ls k.val (.long x) = some L') (hq : pc + 1 = q) (G : Go p e below W (T.setTop (mkF m q L' St))) : Go p e below W (T.setTop (mkF m pc Ls (.long x :: St))) := by
  subst hq; exact G.on fun t k' => XS.lstoreN X.here hx rfl hd rfl hl k'
theorem g_astoreN (X : Stand p l e R s m args below meth c T locs cells slots) (hx : p.tables.exec = Jvm.exec) {k : Fin 4} {x : Value} {L' : Array Slot} (hd : decode c.code pc = .ok (.astore_n k, 1)) (hv : x.isRef = true) (hl : storeLocals Ls k.val x = some L') (hq : pc + 1 = q) (G : Go p e below W (T.setTop (mkF m q L' St))) : Go p e below W (T.setTop (mkF m pc Ls (x :: St))) := by
  subst hq; exact G.on fun t k' => XS.astoreN X.here hx rfl hd rfl hv hl k'
theorem g_iconst (X : Stand p l e R s m args below meth c T locs cells slots) (hx : p.tables.exec = Jvm.exec) {i : Int} {n : Int32} (hd : decode c.code pc = .ok (.iconst i, 1)) (hn : Int32.ofInt i = n) (hq : pc + 1 = q) (G : Go p e below W (T.setTop (mkF m q Ls (.int n :: St)))) : Go p e below W (T.setTop (mkF m pc Ls St)) := by
  subst hq; subst hn; exact G.on fun t k' => XS.iconst X.here hx rfl hd k'
theorem g_bipush (X : Stand p l e R s m args below meth c T locs cells slots) (hx : p.tables.exec = Jvm.exec) {i : Int} {n : Int32} (hd : decode c.code pc = .ok (.bipush i, 2)) (hn : (Int8.ofInt i).toInt32 = n) (hq : pc + 2 = q) (G : Go p e below W (T.setTop (mkF m q Ls (.int n :: St)))) : Go p e below W (T.setTop (mkF m pc Ls St)) := by
  subst hq; subst hn; exact G.on fun t k' => XS.bipush X.here hx rfl hd k'
theorem g_sipush (X : Stand p l e R s m args below meth c T locs cells slots) (hx : p.tables.exec = Jvm.exec) {i : Int} {n : Int32} (hd : decode c.code pc = .ok (.sipush i, 3)) (hn : (Int16.ofInt i).toInt32 = n) (hq : pc + 3 = q) (G : Go p e below W (T.setTop (mkF m q Ls (.int n :: St)))) : Go p e below W (T.setTop (mkF m pc Ls St)) := by
  subst hq; subst hn; exact G.on fun t k' => XS.sipush X.here hx rfl hd k'
theorem g_lconst (X : Stand p l e R s m args below meth c T locs cells slots) (hx : p.tables.exec = Jvm.exec) {i : Fin 2} {n : Int64} (hd : decode c.code pc = .ok (.lconst i, 1)) (hn : Int64.ofNat i = n) (hq : pc + 1 = q) (G : Go p e below W (T.setTop (mkF m q Ls (.long n :: St)))) : Go p e below W (T.setTop (mkF m pc Ls St)) := by
  subst hq; subst hn; exact G.on fun t k' => XS.lconst X.here hx rfl hd k'
theorem g_aconst_null (X : Stand p l e R s m args below meth c T locs cells slots) (hx : p.tables.exec = Jvm.exec)  (hd : decode c.code pc = .ok (.aconst_null, 1)) (hq : pc + 1 = q) (G : Go p e below W (T.setTop (mkF m q Ls (.null :: St)))) : Go p e below W (T.setTop (mkF m pc Ls St)) := by
  subst hq; exact G.on fun t k' => XS.aconstNull X.here hx rfl hd k'
theorem g_iadd (X : Stand p l e R s m args below meth c T locs cells slots) (hx : p.tables.exec = Jvm.exec) {x y z : Int32} (hd : decode c.code pc = .ok (.iadd, 1)) (hz : x + y = z) (hq : pc + 1 = q) (G : Go p e below W (T.setTop (mkF m q Ls (.int z :: St)))) : Go p e below W (T.setTop (mkF m pc Ls (.int y :: .int x :: St))) := by
  subst hq; subst hz; exact G.on fun t k' => XS.iadd X.here hx rfl hd rfl k'
theorem g_isub (X : Stand p l e R s m args below meth c T locs cells slots) (hx : p.tables.exec = Jvm.exec) {x y z : Int32} (hd : decode c.code pc = .ok (.isub, 1)) (hz : x - y = z) (hq : pc + 1 = q) (G : Go p e below W (T.setTop (mkF m q Ls (.int z :: St)))) : Go p e below W (T.setTop (mkF m pc Ls (.int y :: .int x :: St))) := by
  subst hq; subst hz; exact G.on fun t k' => XS.isub X.here hx rfl hd rfl k'
theorem g_imul (X : Stand p l e R s m args below meth c T locs cells slots) (hx : p.tables.exec = Jvm.exec) {x y z : Int32} (hd : decode c.code pc = .ok (.imul, 1)) (hz : x * y = z) (hq : pc + 1 = q) (G : Go p e below W (T.setTop (mkF m q Ls (.int z :: St)))) : Go p e below W (T.setTop (mkF m pc Ls (.int y :: .int x :: St))) := by
  subst hq; subst hz; exact G.on fun t k' => XS.imul X.here hx rfl hd rfl k'
theorem g_iand (X : Stand p l e R s m args below meth c T locs cells slots) (hx : p.tables.exec = Jvm.exec) {x y z : Int32} (hd : decode c.code pc = .ok (.iand, 1)) (hz : x &&& y = z) (hq : pc + 1 = q) (G : Go p e below W (T.setTop (mkF m q Ls (.int z :: St)))) : Go p e below W (T.setTop (mkF m pc Ls (.int y :: .int x :: St))) := by
  subst hq; subst hz; exact G.on fun t k' => XS.iand X.here hx rfl hd rfl k'
theorem g_ior (X : Stand p l e R s m args below meth c T locs cells slots) (hx : p.tables.exec = Jvm.exec) {x y z : Int32} (hd : decode c.code pc = .ok (.ior, 1)) (hz : x ||| y = z) (hq : pc + 1 = q) (G : Go p e below W (T.setTop (mkF m q Ls (.int z :: St)))) : Go p e below W (T.setTop (mkF m pc Ls (.int y :: .int x :: St))) := by
  subst hq; subst hz; exact G.on fun t k' => XS.ior X.here hx rfl hd rfl k'
theorem g_ixor (X : Stand p l e R s m args below meth c T locs cells slots) (hx : p.tables.exec = Jvm.exec) {x y z : Int32} (hd : decode c.code pc = .ok (.ixor, 1)) (hz : x ^^^ y = z) (hq : pc + 1 = q) (G : Go p e below W (T.setTop (mkF m q Ls (.int z :: St)))) : Go p e below W (T.setTop (mkF m pc Ls (.int y :: .int x :: St))) := by
  subst hq; subst hz; exact G.on fun t k' => XS.ixor X.here hx rfl hd rfl k'
theorem g_ishl (X : Stand p l e R s m args below meth c T locs cells slots) (hx : p.tables.exec = Jvm.exec) {x y z : Int32} (hd : decode c.code pc = .ok (.ishl, 1)) (hz : x <<< (y &&& 31) = z) (hq : pc + 1 = q) (G : Go p e below W (T.setTop (mkF m q Ls (.int z :: St)))) : Go p e below W (T.setTop (mkF m pc Ls (.int y :: .int x :: St))) := by
  subst hq; subst hz; exact G.on fun t k' => XS.ishl X.here hx rfl hd rfl k'
theorem g_ishr (X : Stand p l e R s m args below meth c T locs cells slots) (hx : p.tables.exec = Jvm.exec) {x y z : Int32} (hd : decode c.code pc = .ok (.ishr, 1)) (hz : x >>> (y &&& 31) = z) (hq : pc + 1 = q) (G : Go p e below W (T.setTop (mkF m q Ls (.int z :: St)))) : Go p e below W (T.setTop (mkF m pc Ls (.int y :: .int x :: St))) := by
  subst hq; subst hz; exact G.on fun t k' => XS.ishr X.here hx rfl hd rfl k'
theorem g_iushr (X : Stand p l e R s m args below meth c T locs cells slots) (hx : p.tables.exec = Jvm.exec) {x y z : Int32} (hd : decode c.code pc = .ok (.iushr, 1)) (hz : (x.toUInt32 >>> (y &&& 31).toUInt32).toInt32 = z) (hq : pc + 1 = q) (G : Go p e below W (T.setTop (mkF m q Ls (.int z :: St)))) : Go p e below W (T.setTop (mkF m pc Ls (.int y :: .int x :: St))) := by
  subst hq; subst hz; exact G.on fun t k' => XS.iushr X.here hx rfl hd rfl k'
theorem g_irem (X : Stand p l e R s m args below meth c T locs cells slots) (hx : p.tables.exec = Jvm.exec) {x y z : Int32} (hd : decode c.code pc = .ok (.irem, 1)) (hy : y ≠ 0) (hz : x % y = z) (hq : pc + 1 = q) (G : Go p e below W (T.setTop (mkF m q Ls (.int z :: St)))) : Go p e below W (T.setTop (mkF m pc Ls (.int y :: .int x :: St))) := by
  subst hq; subst hz; exact G.on fun t k' => iremM X hx rfl hd rfl hy k'
theorem g_ladd (X : Stand p l e R s m args below meth c T locs cells slots) (hx : p.tables.exec = Jvm.exec) {x y z : Int64} (hd : decode c.code pc = .ok (.ladd, 1)) (hz : x + y = z) (hq : pc + 1 = q) (G : Go p e below W (T.setTop (mkF m q Ls (.long z :: St)))) : Go p e below W (T.setTop (mkF m pc Ls (.long y :: .long x :: St))) := by
  subst hq; subst hz; exact G.on fun t k' => XS.ladd X.here hx rfl hd rfl k'
theorem g_lsub (X : Stand p l e R s m args below meth c T locs cells slots) (hx : p.tables.exec = Jvm.exec) {x y z : Int64} (hd : decode c.code pc = .ok (.lsub, 1)) (hz : x - y = z) (hq : pc + 1 = q) (G : Go p e below W (T.setTop (mkF m q Ls (.long z :: St)))) : Go p e below W (T.setTop (mkF m pc Ls (.long y :: .long x :: St))) := by
  subst hq; subst hz; exact G.on fun t k' => XS.lsub X.here hx rfl hd rfl k'
theorem g_land (X : Stand p l e R s m args below meth c T locs cells slots) (hx : p.tables.exec = Jvm.exec) {x y z : Int64} (hd : decode c.code pc = .ok (.land, 1)) (hz : x &&& y = z) (hq : pc + 1 = q) (G : Go p e below W (T.setTop (mkF m q Ls (.long z :: St)))) : Go p e below W (T.setTop (mkF m pc Ls (.long y :: .long x :: St))) := by
  subst hq; subst hz; exact G.on fun t k' => XS.land X.here hx rfl hd rfl k'
theorem g_lor (X : Stand p l e R s m args below meth c T locs cells slots) (hx : p.tables.exec = Jvm.exec) {x y z : Int64} (hd : decode c.code pc = .ok (.lor, 1)) (hz : x ||| y = z) (hq : pc + 1 = q) (G : Go p e below W (T.setTop (mkF m q Ls (.long z :: St)))) : Go p e below W (T.setTop (mkF m pc Ls (.long y :: .long x :: St))) := by
  subst hq; subst hz; exact G.on fun t k' => XS.lor X.here hx rfl hd rfl k'
theorem g_lxor (X : Stand p l e R s m args below meth c T locs cells slots) (hx : p.tables.exec = Jvm.exec) {x y z : Int64} (hd : decode c.code pc = .ok (.lxor, 1)) (hz : x ^^^ y = z) (hq : pc + 1 = q) (G : Go p e below W (T.setTop (mkF m q Ls (.long z :: St)))) : Go p e below W (T.setTop (mkF m pc Ls (.long y :: .long x :: St))) := by
  subst hq; subst hz; exact G.on fun t k' => XS.lxor X.here hx rfl hd rfl k'
theorem g_lshl (X : Stand p l e R s m args below meth c T locs cells slots) (hx : p.tables.exec = Jvm.exec) {x z : Int64} {y : Int32} (hd : decode c.code pc = .ok (.lshl, 1)) (hz : x <<< (y &&& 0x3f).toInt64 = z) (hq : pc + 1 = q) (G : Go p e below W (T.setTop (mkF m q Ls (.long z :: St)))) : Go p e below W (T.setTop (mkF m pc Ls (.int y :: .long x :: St))) := by
  subst hq; subst hz; exact G.on fun t k' => XS.lshl X.here hx rfl hd rfl k'
theorem g_lshr (X : Stand p l e R s m args below meth c T locs cells slots) (hx : p.tables.exec = Jvm.exec) {x z : Int64} {y : Int32} (hd : decode c.code pc = .ok (.lshr, 1)) (hz : x >>> (y &&& 0x3f).toInt64 = z) (hq : pc + 1 = q) (G : Go p e below W (T.setTop (mkF m q Ls (.long z :: St)))) : Go p e below W (T.setTop (mkF m pc Ls (.int y :: .long x :: St))) := by
  subst hq; subst hz; exact G.on fun t k' => XS.lshr X.here hx rfl hd rfl k'
theorem g_lushr (X : Stand p l e R s m args below meth c T locs cells slots) (hx : p.tables.exec = Jvm.exec) {x z : Int64} {y : Int32} (hd : decode c.code pc = .ok (.lushr, 1)) (hz : (x.toUInt64 >>> (y &&& 0x3f).toInt64.toUInt64).toInt64 = z) (hq : pc + 1 = q) (G : Go p e below W (T.setTop (mkF m q Ls (.long z :: St)))) : Go p e below W (T.setTop (mkF m pc Ls (.int y :: .long x :: St))) := by
  subst hq; subst hz; exact G.on fun t k' => XS.lushr X.here hx rfl hd rfl k'
theorem g_lcmp (X : Stand p l e R s m args below meth c T locs cells slots) (hx : p.tables.exec = Jvm.exec) {x y : Int64} {z : Int32} (hd : decode c.code pc = .ok (.lcmp, 1)) (hz : lcmpW x y = z) (hq : pc + 1 = q) (G : Go p e below W (T.setTop (mkF m q Ls (.int z :: St)))) : Go p e below W (T.setTop (mkF m pc Ls (.long y :: .long x :: St))) := by
  subst hq; subst hz; exact G.on fun t k' => XS.lcmp X.here hx rfl hd rfl k'
theorem g_i2l (X : Stand p l e R s m args below meth c T locs cells slots) (hx : p.tables.exec = Jvm.exec) {x : Int32} {z : Int64} (hd : decode c.code pc = .ok (.i2l, 1)) (hz : x.toInt64 = z) (hq : pc + 1 = q) (G : Go p e below W (T.setTop (mkF m q Ls (.long z :: St)))) : Go p e below W (T.setTop (mkF m pc Ls (.int x :: St))) := by
  subst hq; subst hz; exact G.on fun t k' => XS.i2l X.here hx rfl hd rfl k'
theorem g_l2i (X : Stand p l e R s m args below meth c T locs cells slots) (hx : p.tables.exec = Jvm.exec) {x : Int64} {z : Int32} (hd : decode c.code pc = .ok (.l2i, 1)) (hz : x.toInt32 = z) (hq : pc + 1 = q) (G : Go p e below W (T.setTop (mkF m q Ls (.int z :: St)))) : Go p e below W (T.setTop (mkF m pc Ls (.long x :: St))) := by
  subst hq; subst hz; exact G.on fun t k' => XS.l2i X.here hx rfl hd rfl k'
theorem g_i2b (X : Stand p l e R s m args below meth c T locs cells slots) (hx : p.tables.exec = Jvm.exec) {x : Int32} {z : Int32} (hd : decode c.code pc = .ok (.i2b, 1)) (hz : x.toInt8.toInt32 = z) (hq : pc + 1 = q) (G : Go p e below W (T.setTop (mkF m q Ls (.int z :: St)))) : Go p e below W (T.setTop (mkF m pc Ls (.int x :: St))) := by
  subst hq; subst hz; exact G.on fun t k' => XS.i2b X.here hx rfl hd rfl k'
theorem g_i2c (X : Stand p l e R s m args below meth c T locs cells slots) (hx : p.tables.exec = Jvm.exec) {x : Int32} {z : Int32} (hd : decode c.code pc = .ok (.i2c, 1)) (hz : x.toUInt32.toUInt16.toUInt32.toInt32 = z) (hq : pc + 1 = q) (G : Go p e below W (T.setTop (mkF m q Ls (.int z :: St)))) : Go p e below W (T.setTop (mkF m pc Ls (.int x :: St))) := by
  subst hq; subst hz; exact G.on fun t k' => XS.i2c X.here hx rfl hd rfl k'
theorem g_ineg (X : Stand p l e R s m args below meth c T locs cells slots) (hx : p.tables.exec = Jvm.exec) {x : Int32} {z : Int32} (hd : decode c.code pc = .ok (.ineg, 1)) (hz : -x = z) (hq : pc + 1 = q) (G : Go p e below W (T.setTop (mkF m q Ls (.int z :: St)))) : Go p e below W (T.setTop (mkF m pc Ls (.int x :: St))) := by
  subst hq; subst hz; exact G.on fun t k' => XS.ineg X.here hx rfl hd rfl k'
theorem g_dup (X : Stand p l e R s m args below meth c T locs cells slots) (hx : p.tables.exec = Jvm.exec) {x : Value} (hd : decode c.code pc = .ok (.dup, 1)) (hc : x.category = 1) (hq : pc + 1 = q) (G : Go p e below W (T.setTop (mkF m q Ls (x :: x :: St)))) : Go p e below W (T.setTop (mkF m pc Ls (x :: St))) := by
  subst hq; exact G.on fun t k' => XS.dup X.here hx rfl hd rfl hc k'
theorem g_pop (X : Stand p l e R s m args below meth c T locs cells slots) (hx : p.tables.exec = Jvm.exec) {x : Value} (hd : decode c.code pc = .ok (.pop, 1)) (hc : x.category = 1) (hq : pc + 1 = q) (G : Go p e below W (T.setTop (mkF m q Ls St))) : Go p e below W (T.setTop (mkF m pc Ls (x :: St))) := by
  subst hq; exact G.on fun t k' => XS.pop X.here hx rfl hd rfl hc k'
theorem g_dup_x1 (X : Stand p l e R s m args below meth c T locs cells slots) (hx : p.tables.exec = Jvm.exec) {x y : Value} (hd : decode c.code pc = .ok (.dup_x1, 1)) (hc : x.category = 1) (hc2 : y.category = 1) (hq : pc + 1 = q) (G : Go p e below W (T.setTop (mkF m q Ls (x :: y :: x :: St)))) : Go p e below W (T.setTop (mkF m pc Ls (x :: y :: St))) := by
  subst hq; exact G.on fun t k' => XS.dupX1 X.here hx rfl hd rfl hc hc2 k'
theorem g_iinc (X : Stand p l e R s m args below meth c T locs cells slots) (hx : p.tables.exec = Jvm.exec) {k : Nat} {cst : Int} {x z : Int32} {L' : Array Slot} (hd : decode c.code pc = .ok (.iinc k cst, 3)) (hl : Ls[k]? = some (.val (.int x))) (hz : x + Int32.ofInt cst = z) (hl' : storeLocals Ls k (.int z) = some L') (hq : pc + 3 = q) (G : Go p e below W (T.setTop (mkF m q L' St))) : Go p e below W (T.setTop (mkF m pc Ls St)) := by
  subst hq; subst hz; exact G.on fun t k' => XS.iinc X.here hx rfl hd hl hl' k'
theorem g_goto (X : Stand p l e R s m args below meth c T locs cells slots) (hx : p.tables.exec = Jvm.exec) {o : Int} (hd : decode c.code pc = .ok (.goto o, 3)) (ho : 0 ≤ (pc : Int) + o) (hq : ((pc : Int) + o).toNat = q) (G : Go p e below W (T.setTop (mkF m q Ls St))) : Go p e below W (T.setTop (mkF m pc Ls St)) :=
  G.on fun t k' => XS.goto X.here hx rfl rfl hd ho hq k'
end Plain
section Branches
variable {q2 : Nat}
theorem g_icmp (X : Stand p l e R s m args below meth c T locs cells slots) (hx : p.tables.exec = Jvm.exec) {cd : ClassFile.Cond} {x y : Int32} {o : Int} (hd : decode c.code pc = .ok (.if_icmp cd o, 3)) (ho : 0 ≤ (pc : Int) + o) (hq : ((pc : Int) + o).toNat = q) (hq2 : pc + 3 = q2)
    (Gy : if_icmp.holds cd x y = true → Go p e below W (T.setTop (mkF m q Ls St))) (Gn : if_icmp.holds cd x y = false → Go p e below W (T.setTop (mkF m q2 Ls St))) : Go p e below W (T.setTop (mkF m pc Ls (.int y :: .int x :: St))) := by
  subst hq2
  cases hc : if_icmp.holds cd x y with
  | true => exact (Gy hc).on fun t k => XS.icmpYes X.here hx rfl rfl hd rfl hc ho hq k
  | false => exact (Gn hc).on fun t k => XS.icmpNo X.here hx rfl hd rfl hc k
theorem g_if0 (X : Stand p l e R s m args below meth c T locs cells slots) (hx : p.tables.exec = Jvm.exec) {cd : ClassFile.Cond} {x : Int32} {o : Int} (hd : decode c.code pc = .ok (.ifCond cd o, 3)) (ho : 0 ≤ (pc : Int) + o) (hq : ((pc : Int) + o).toNat = q) (hq2 : pc + 3 = q2)
    (Gy : if_icmp.holds cd x 0 = true → Go p e below W (T.setTop (mkF m q Ls St))) (Gn : if_icmp.holds cd x 0 = false → Go p e below W (T.setTop (mkF m q2 Ls St))) : Go p e below W (T.setTop (mkF m pc Ls (.int x :: St))) := by
  subst hq2
  cases hc : if_icmp.holds cd x 0 with
  | true => exact (Gy hc).on fun t k => XS.ifYes X.here hx rfl rfl hd rfl ((if0 _ _).trans hc) ho hq k
  | false => exact (Gn hc).on fun t k => XS.ifNo X.here hx rfl hd rfl ((if0 _ _).trans hc) k
theorem g_icmp_eq (X : Stand p l e R s m args below meth c T locs cells slots) (hx : p.tables.exec = Jvm.exec) {x y : Int32} {o : Int} (hd : decode c.code pc = .ok (.if_icmp .eq o, 3)) (ho : 0 ≤ (pc : Int) + o) (hq : ((pc : Int) + o).toNat = q) (hq2 : pc + 3 = q2) (Gy : x = y → Go p e below W (T.setTop (mkF m q Ls St))) (Gn : ¬ x = y → Go p e below W (T.setTop (mkF m q2 Ls St))) : Go p e below W (T.setTop (mkF m pc Ls (.int y :: .int x :: St))) :=
  g_icmp X hx hd ho hq hq2 (fun h => Gy (by simpa [if_icmp.holds] using h)) (fun h => Gn (by simpa [if_icmp.holds] using h))
theorem g_if_eq (X : Stand p l e R s m args below meth c T locs cells slots) (hx : p.tables.exec = Jvm.exec) {x : Int32} {o : Int} (hd : decode c.code pc = .ok (.ifCond .eq o, 3)) (ho : 0 ≤ (pc : Int) + o) (hq : ((pc : Int) + o).toNat = q) (hq2 : pc + 3 = q2) (Gy : x = (0 : Int32) → Go p e below W (T.setTop (mkF m q Ls St))) (Gn : ¬ x = (0 : Int32) → Go p e below W (T.setTop (mkF m q2 Ls St))) : Go p e below W (T.setTop (mkF m pc Ls (.int x :: St))) :=
  g_if0 X hx hd ho hq hq2 (fun h => Gy (by simpa [if_icmp.holds] using h)) (fun h => Gn (by simpa [if_icmp.holds] using h))
theorem g_icmp_ne (X : Stand p l e R s m args below meth c T locs cells slots) (hx : p.tables.exec = Jvm.exec) {x y : Int32} {o : Int} (hd : decode c.code pc = .ok (.if_icmp .ne o, 3)) (ho : 0 ≤ (pc : Int) + o) (hq : ((pc : Int) + o).toNat = q) (hq2 : pc + 3 = q2) (Gy : ¬ x = y → Go p e below W (T.setTop (mkF m q Ls St))) (Gn : x = y → Go p e below W (T.setTop (mkF m q2 Ls St))) : Go p e below W (T.setTop (mkF m pc Ls (.int y :: .int x :: St))) :=
  g_icmp X hx hd ho hq hq2 (fun h => Gy (by simpa [if_icmp.holds] using h)) (fun h => Gn (by simpa [if_icmp.holds] using h))
theorem g_if_ne (X : Stand p l e R s m args below meth c T locs cells slots) (hx : p.tables.exec = Jvm.exec) {x : Int32} {o : Int} (hd : decode c.code pc = .ok (.ifCond .ne o, 3)) (ho : 0 ≤ (pc : Int) + o) (hq : ((pc : Int) + o).toNat = q) (hq2 : pc + 3 = q2) (Gy : ¬ x = (0 : Int32) → Go p e below W (T.setTop (mkF m q Ls St))) (Gn : x = (0 : Int32) → Go p e below W (T.setTop (mkF m q2 Ls St))) : Go p e below W (T.setTop (mkF m pc Ls (.int x :: St))) :=
  g_if0 X hx hd ho hq hq2 (fun h => Gy (by simpa [if_icmp.holds] using h)) (fun h => Gn (by simpa [if_icmp.holds] using h))
theorem g_icmp_lt (X : Stand p l e R s m args below meth c T locs cells slots) (hx : p.tables.exec = Jvm.exec) {x y : Int32} {o : Int} (hd : decode c.code pc = .ok (.if_icmp .lt o, 3)) (ho : 0 ≤ (pc : Int) + o) (hq : ((pc : Int) + o).toNat = q) (hq2 : pc + 3 = q2) (Gy : x < y → Go p e below W (T.setTop (mkF m q Ls St))) (Gn : ¬ x < y → Go p e below W (T.setTop (mkF m q2 Ls St))) : Go p e below W (T.setTop (mkF m pc Ls (.int y :: .int x :: St))) :=
  g_icmp X hx hd ho hq hq2 (fun h => Gy (by simpa [if_icmp.holds] using h)) (fun h => Gn (by simpa [if_icmp.holds] using h))
theorem g_if_lt (X : Stand p l e R s m args below meth c T locs cells slots) (hx : p.tables.exec = Jvm.exec) {x : Int32} {o : Int} (hd : decode c.code pc = .ok (.ifCond .lt o, 3)) (ho : 0 ≤ (pc : Int) + o) (hq : ((pc : Int) + o).toNat = q) (hq2 : pc + 3 = q2) (Gy : x < (0 : Int32) → Go p e below W (T.setTop (mkF m q Ls St))) (Gn : ¬ x < (0 : Int32) → Go p e below W (T.setTop (mkF m q2 Ls St))) : Go p e below W (T.setTop (mkF m pc Ls (.int x :: St))) :=
  g_if0 X hx hd ho hq hq2 (fun h => Gy (by simpa [if_icmp.holds] using h)) (fun h => Gn (by simpa [if_icmp.holds] using h))
theorem g_icmp_ge (X : Stand p l e R s m args below meth c T locs cells slots) (hx : p.tables.exec = Jvm.exec) {x y : Int32} {o : Int} (hd : decode c.code pc = .ok (.if_icmp .ge o, 3)) (ho : 0 ≤ (pc : Int) + o) (hq : ((pc : Int) + o).toNat = q) (hq2 : pc + 3 = q2) (Gy : ¬ x < y → Go p e below W (T.setTop (mkF m q Ls St))) (Gn : x < y → Go p e below W (T.setTop (mkF m q2 Ls St))) : Go p e below W (T.setTop (mkF m pc Ls (.int y :: .int x :: St))) :=
  g_icmp X hx hd ho hq hq2 (fun h => Gy (by simpa [if_icmp.holds] using h)) (fun h => Gn (by simpa [if_icmp.holds] using h))
theorem g_if_ge (X : Stand p l e R s m args below meth c T locs cells slots) (hx : p.tables.exec = Jvm.exec) {x : Int32} {o : Int} (hd : decode c.code pc = .ok (.ifCond .ge o, 3)) (ho : 0 ≤ (pc : Int) + o) (hq : ((pc : Int) + o).toNat = q) (hq2 : pc + 3 = q2) (Gy : ¬ x < (0 : Int32) → Go p e below W (T.setTop (mkF m q Ls St))) (Gn : x < (0 : Int32) → Go p e below W (T.setTop (mkF m q2 Ls St))) : Go p e below W (T.setTop (mkF m pc Ls (.int x :: St))) :=
  g_if0 X hx hd ho hq hq2 (fun h => Gy (by simpa [if_icmp.holds] using h)) (fun h => Gn (by simpa [if_icmp.holds] using h))
theorem g_icmp_gt (X : Stand p l e R s m args below meth c T locs cells slots) (hx : p.tables.exec = Jvm.exec) {x y : Int32} {o : Int} (hd : decode c.code pc = .ok (.if_icmp .gt o, 3)) (ho : 0 ≤ (pc : Int) + o) (hq : ((pc : Int) + o).toNat = q) (hq2 : pc + 3 = q2) (Gy : y < x → Go p e below W (T.setTop (mkF m q Ls St))) (Gn : ¬ y < x → Go p e below W (T.setTop (mkF m q2 Ls St))) : Go p e below W (T.setTop (mkF m pc Ls (.int y :: .int x :: St))) :=
  g_icmp X hx hd ho hq hq2 (fun h => Gy (by simpa [if_icmp.holds] using h)) (fun h => Gn (by simpa [if_icmp.holds] using h))
theorem g_if_gt (X : Stand p l e R s m args below meth c T locs cells slots) (hx : p.tables.exec = Jvm.exec) {x : Int32} {o : Int} (hd : decode c.code pc = .ok (.ifCond .gt o, 3)) (ho : 0 ≤ (pc : Int) + o) (hq : ((pc : Int) + o).toNat = q) (hq2 : pc + 3 = q2) (Gy : (0 : Int32) < x → Go p e below W (T.setTop (mkF m q Ls St))) (Gn : ¬ (0 : Int32) < x → Go p e below W (T.setTop (mkF m q2 Ls St))) : Go p e below W (T.setTop (mkF m pc Ls (.int x :: St))) :=
  g_if0 X hx hd ho hq hq2 (fun h => Gy (by simpa [if_icmp.holds] using h)) (fun h => Gn (by simpa [if_icmp.holds] using h))
theorem g_icmp_le (X : Stand p l e R s m args below meth c T locs cells slots) (hx : p.tables.exec = Jvm.exec) {x y : Int32} {o : Int} (hd : decode c.code pc = .ok (.if_icmp .le o, 3)) (ho : 0 ≤ (pc : Int) + o) (hq : ((pc : Int) + o).toNat = q) (hq2 : pc + 3 = q2) (Gy : ¬ y < x → Go p e below W (T.setTop (mkF m q Ls St))) (Gn : y < x → Go p e below W (T.setTop (mkF m q2 Ls St))) : Go p e below W (T.setTop (mkF m pc Ls (.int y :: .int x :: St))) :=
  g_icmp X hx hd ho hq hq2 (fun h => Gy (by simpa [if_icmp.holds] using h)) (fun h => Gn (by simpa [if_icmp.holds] using h))
theorem g_if_le (X : Stand p l e R s m args below meth c T locs cells slots) (hx : p.tables.exec = Jvm.exec) {x : Int32} {o : Int} (hd : decode c.code pc = .ok (.ifCond .le o, 3)) (ho : 0 ≤ (pc : Int) + o) (hq : ((pc : Int) + o).toNat = q) (hq2 : pc + 3 = q2) (Gy : ¬ (0 : Int32) < x → Go p e below W (T.setTop (mkF m q Ls St))) (Gn : (0 : Int32) < x → Go p e below W (T.setTop (mkF m q2 Ls St))) : Go p e below W (T.setTop (mkF m pc Ls (.int x :: St))) :=
  g_if0 X hx hd ho hq hq2 (fun h => Gy (by simpa [if_icmp.holds] using h)) (fun h => Gn (by simpa [if_icmp.holds] using h))
theorem g_acmpEq (X : Stand p l e R s m args below meth c T locs cells slots) (hx : p.tables.exec = Jvm.exec) {x y : Value} (h1 : x.isRef = true) (h2 : y.isRef = true) {o : Int} (hd : decode c.code pc = .ok (.if_acmp .eq o, 3)) (ho : 0 ≤ (pc : Int) + o) (hq : ((pc : Int) + o).toNat = q) (hq2 : pc + 3 = q2)
    (Gy : x = y → Go p e below W (T.setTop (mkF m q Ls St))) (Gn : ¬ x = y → Go p e below W (T.setTop (mkF m q2 Ls St))) : Go p e below W (T.setTop (mkF m pc Ls (y :: x :: St))) := by
  by_cases hc : x = y
  · exact (Gy hc).on fun t k => Jvm.RoadKit.acmp X hx rfl h1 h2 (pc0 := pc) (same := true) rfl hd rfl (decide_eq_true hc) ho (by simp [acV, hq]) k
  · exact (Gn hc).on fun t k => Jvm.RoadKit.acmp X hx rfl h1 h2 (pc0 := pc) (same := false) rfl hd rfl (decide_eq_false hc) ho (by simp [acV, hq2]) k
theorem g_acmpNe (X : Stand p l e R s m args below meth c T locs cells slots) (hx : p.tables.exec = Jvm.exec) {x y : Value} (h1 : x.isRef = true) (h2 : y.isRef = true) {o : Int} (hd : decode c.code pc = .ok (.if_acmp .ne o, 3)) (ho : 0 ≤ (pc : Int) + o) (hq : ((pc : Int) + o).toNat = q) (hq2 : pc + 3 = q2)
    (Gy : ¬ x = y → Go p e below W (T.setTop (mkF m q Ls St))) (Gn : x = y → Go p e below W (T.setTop (mkF m q2 Ls St))) : Go p e below W (T.setTop (mkF m pc Ls (y :: x :: St))) := by
  by_cases hc : x = y
  · exact (Gn hc).on fun t k => Jvm.RoadKit.acmp X hx rfl h1 h2 (pc0 := pc) (same := true) rfl hd rfl (decide_eq_true hc) ho (by simp [acV, hq2]) k
  · exact (Gy hc).on fun t k => Jvm.RoadKit.acmp X hx rfl h1 h2 (pc0 := pc) (same := false) rfl hd rfl (decide_eq_false hc) ho (by simp [acV, hq]) k
theorem g_ifnullY (X : Stand p l e R s m args below meth c T locs cells slots) (hx : p.tables.exec = Jvm.exec) {o : Int} (hd : decode c.code pc = .ok (.ifnull o, 3)) (ho : 0 ≤ (pc : Int) + o) (hq : ((pc : Int) + o).toNat = q) (G : Go p e below W (T.setTop (mkF m q Ls St))) : Go p e below W (T.setTop (mkF m pc Ls (.null :: St))) :=
  G.on fun t k => XS.ifnullYes X.here hx rfl rfl hd rfl ho hq k
theorem g_ifnullN (X : Stand p l e R s m args below meth c T locs cells slots) (hx : p.tables.exec = Jvm.exec) {o : Int} {b : Addr} (hd : decode c.code pc = .ok (.ifnull o, 3)) (hq : pc + 3 = q) (G : Go p e below W (T.setTop (mkF m q Ls St))) : Go p e below W (T.setTop (mkF m pc Ls (.ref b :: St))) := by
  subst hq; exact G.on fun t k => XS.ifnullNo X.here hx rfl hd rfl k
theorem g_ifnonnullN (X : Stand p l e R s m args below meth c T locs cells slots) (hx : p.tables.exec = Jvm.exec) {o : Int} (hd : decode c.code pc = .ok (.ifnonnull o, 3)) (hq : pc + 3 = q) (G : Go p e below W (T.setTop (mkF m q Ls St))) : Go p e below W (T.setTop (mkF m pc Ls (.null :: St))) := by
  subst hq; exact G.on fun t k => XS.ifnonnullNo X.here hx rfl hd rfl k
theorem g_ifnonnullY (X : Stand p l e R s m args below meth c T locs cells slots) (hx : p.tables.exec = Jvm.exec) {o : Int} {b : Addr} (hd : decode c.code pc = .ok (.ifnonnull o, 3)) (ho : 0 ≤ (pc : Int) + o) (hq : ((pc : Int) + o).toNat = q) (G : Go p e below W (T.setTop (mkF m q Ls St))) : Go p e below W (T.setTop (mkF m pc Ls (.ref b :: St))) :=
  G.on fun t k => XS.ifnonnullYes X.here hx rfl rfl hd rfl ho hq k
end Branches
section HeapSteps
theorem g_ldcI (X : Stand p l e R s m args below meth c T locs cells slots) (hx : p.tables.exec = Jvm.exec) (hZ : Z.Warmed39 s.vm) {own : String} {index : Nat} {v : Int32} (hown : s.vm.findClass own = some m.cls) (w : (Jvm.Cond.constant own index v).before a0 Z = true) (hd : decode c.code pc = .ok (.ldc index, 2)) (hq : pc + 2 = q)
    (G : Go p e below W (T.setTop (mkF m q Ls (.int v :: St)))) : Go p e below W (T.setTop (mkF m pc Ls St)) := by
  subst hq; exact G.on fun t k => X.ldcInt hx hown (mvT hZ w) (g := mkF m pc Ls St) rfl hd t k
theorem g_ldcJ (X : Stand p l e R s m args below meth c T locs cells slots) (hx : p.tables.exec = Jvm.exec) (hZ : Z.Warmed39 s.vm) {own : String} {index : Nat} {v : Int64} (hown : s.vm.findClass own = some m.cls) (w : (Jvm.Cond.constantLong own index v).before a0 Z = true) (hd : decode c.code pc = .ok (.ldc2_w index, 3)) (hq : pc + 3 = q)
    (G : Go p e below W (T.setTop (mkF m q Ls (.long v :: St)))) : Go p e below W (T.setTop (mkF m pc Ls St)) := by
  subst hq; exact G.on fun t k => X.ldc2Long hx hown (mvT hZ w) (g := mkF m pc Ls St) rfl hd t k
theorem g_getF (X : Stand p l e R s m args below meth c T locs cells slots) (hx : p.tables.exec = Jvm.exec) (hZ : Z.Warmed39 s.vm) {own R0 O n d : String} {index : Nat} (hown : s.vm.findClass own = some m.cls) (w : (Jvm.Cond.fieldLink own index R0 n d).before a0 Z = true) (via : Via Z R0 O n d)
    (eT : T.heap = h) {a : Addr} {v : Value} (F : Fld Z h a O n d v) (hd : decode c.code pc = .ok (.getfield index, 3)) (hq : pc + 3 = q)
    (G : ∀ T', Stand p l e R s m args below meth c T' locs cells slots → T'.heap = h → Go p e below W (T'.setTop (mkF m q Ls (v :: St)))) : Go p e below W (T.setTop (mkF m pc Ls (.ref a :: St))) := by
  subst hq
  obtain ⟨T', X', e', st⟩ := getF X hx hZ hown (host := "") (Or.inl w) via eT F (g := mkF m pc Ls (.ref a :: St)) rfl rfl hd
  exact (G T' X' e').on st
theorem g_getS (X : Stand p l e R s m args below meth c T locs cells slots) (hx : p.tables.exec = Jvm.exec) (hZ : Z.Warmed39 s.vm) {own R0 O n d : String} {index : Nat} (hown : s.vm.findClass own = some m.cls) (w : (Jvm.Cond.fieldLink own index R0 n d).before a0 Z = true) (via : Via Z R0 O n d)
    (eT : T.heap = h) {v : Value} (F : Sta Z h O n d v) (hd : decode c.code pc = .ok (.getstatic index, 3)) (hq : pc + 3 = q)
    (G : ∀ T', Stand p l e R s m args below meth c T' locs cells slots → T'.heap = h → Go p e below W (T'.setTop (mkF m q Ls (v :: St)))) : Go p e below W (T.setTop (mkF m pc Ls St)) := by
  subst hq
  obtain ⟨T', X', e', st⟩ := getS2 X hx hZ hown (host := "") (Or.inl w) via eT F (g := mkF m pc Ls St) rfl hd
  exact (G T' X' e').on st
theorem g_putF (X : Stand p l e R s m args below meth c T locs cells slots) (hx : p.tables.exec = Jvm.exec) (hZ : Z.Warmed39 s.vm) {own R0 O n d C : String} {index kk : Nat} {ty : FieldType} (hown : s.vm.findClass own = some m.cls) (w : (Jvm.Cond.fieldLink own index R0 n d).before a0 Z = true) (via : Via Z R0 O n d)
    (eT : T.heap = h) {a : Addr} {v old : Value} (F : Fld Z h a O n d old) (E : Exa Z h a C) (L : (Jvm.Cond.lays C O n d).before a0 Z = true ∨ ((Jvm.Cond.laysFinal C O n d).before a0 Z = true ∧ own = O ∧ meth.name = "<init>")) (wi : (Jvm.Cond.instantiable C kk).before a0 Z = true)
    (hty : parseFieldDescriptor d = some ty) (hn : narrow ty v = v) (hf : fits ty v = true) (hd : decode c.code pc = .ok (.putfield index, 3)) (hq : pc + 3 = q)
    (G : ∀ T' h', Stand p l e R s m args below meth c T' (locs ++ [⟨a, Jvm.RoadKit.slotOf Z O n d⟩]) cells slots → T'.heap = h' → Wr h h' a (Jvm.RoadKit.slotOf Z O n d) v → Go p e below W (T'.setTop (mkF m q Ls St))) : Go p e below W (T.setTop (mkF m pc Ls (v :: .ref a :: St))) := by
  subst hq
  obtain ⟨T', h', X', e', W', st⟩ := putF X hx hZ hown (host := "") (Or.inl w) via eT F E L wi hty hn hf (g := mkF m pc Ls (v :: .ref a :: St)) rfl rfl hd
  exact (G T' h' X' e' W').on st
theorem g_new (X : Stand p l e R s m args below meth c T locs cells slots) (hx : p.tables.exec = Jvm.exec) (hZ : Z.Warmed39 s.vm) {own C : String} {index n : Nat} (hown : s.vm.findClass own = some m.cls) (w : (Jvm.Cond.classLink own index C).before a0 Z = true) (wi : (Jvm.Cond.instantiable C n).before a0 Z = true) (wz : (Jvm.Cond.initialized C).before a0 Z = true) (eT : T.heap = h)
    (hd : decode c.code pc = .ok (.new index, 3)) (hc : cells + 1 ≤ R.cells) (hl : slots + n ≤ R.slots) (hq : pc + 3 = q)
    (G : ∀ T' h' b, b = h.size → Stand p l e R s m args below meth c T' locs (cells + 1) (slots + n) → T'.heap = h' → Ext h h' → Exa Z h' b C → (∀ {O nm d : String} {ty : FieldType}, Laid Z a0 C O nm d → parseFieldDescriptor d = some ty → Fld Z h' b O nm d (defaultValue ty)) → Go p e below W (T'.setTop (mkF m q Ls (.ref b :: St)))) :
    Go p e below W (T.setTop (mkF m pc Ls St)) := by
  subst hq
  obtain ⟨T', h', X', e', E', A', D', -, st⟩ := newO X hx hZ hown w wi wz eT (g := mkF m pc Ls St) rfl hd hc hl
  exact (G T' h' _ rfl X' e' E' A' D').on st
theorem g_newP (X : Stand p l e R s m args below meth c T locs cells slots) (hx : p.tables.exec = Jvm.exec) (hZ : Z.Warmed39 s.vm) {aty : ArrayType} (w : (Jvm.Cond.arrayClass (newarray.typeOf aty)).before a0 Z = true) (eT : T.heap = h) (hd : decode c.code pc = .ok (.newarray aty, 2)) {n : Int32} (hn : ¬ n < 0) {cap : Nat} (hcap : n.toNatClampNeg ≤ cap) (hb : cap * 8 ≤ 536870912) (hc : cells + 1 ≤ R.cells) (hl : slots + cap ≤ R.slots) (hq : pc + 2 = q)
    (G : ∀ T' h' cA b, b = h.size → Stand p l e R s m args below meth c T' locs (cells + 1) (slots + cap) → T'.heap = h' → Ext h h' → Arr Z h' b (newA cA (newarray.typeOf aty) n) (newarray.typeOf aty) → Go p e below W (T'.setTop (mkF m q Ls (.ref b :: St)))) :
    Go p e below W (T.setTop (mkF m pc Ls (.int n :: St))) := by
  subst hq
  obtain ⟨T', h', cA, X', e', E', A', st⟩ := newP X hx hZ w eT (g := mkF m pc Ls (.int n :: St)) rfl hd rfl hn hcap hb hc hl
  exact (G T' h' cA _ rfl X' e' E' A').on st
theorem g_initO (X : Stand p l e R s m args below meth c T locs cells slots) (hx : p.tables.exec = Jvm.exec) (hZ : Z.Warmed39 s.vm) {own : String} {idx : Nat} (hown : s.vm.findClass own = some m.cls) (w1 : (Jvm.Cond.methodLink own idx Lib.objectInit).before a0 Z = true) (w2 : (Jvm.Cond.instanceMethod Lib.objectInit).before a0 Z = true)
    (w3 : (Jvm.Cond.code Lib.objectInit ⟨#[0xb1]⟩ 1 none).before a0 Z = true) (eT : T.heap = h) (hsz : Ls.size = c.maxLocals) {a : Addr} (hd : decode c.code pc = .ok (.invokespecial idx, 3)) (hf : 1 ≤ R.frames) (hl : (St.map fun v => v.category).sum + 12 ≤ R.locals) (hq : pc + 3 = q)
    (G : ∀ T', Stand p l e R s m args below meth c T' locs cells slots → T'.heap = h → Go p e below W (T'.setTop (mkF m q Ls St))) : Go p e below W (T.setTop (mkF m pc Ls (.ref a :: St))) := by
  subst hq
  obtain ⟨T', X', e', st⟩ := initO X hx hZ hown w1 w2 w3 eT (g := mkF m pc Ls (.ref a :: St)) rfl hsz rfl hd hf (W := (St.map fun v => v.category).sum) (by simp) hl
  exact (G T' X' e').on st
end HeapSteps
section Calls
variable {y z : MethodName} {bytes : ByteArray} {ml : Nat} {ret r : Option FieldType} {rm : Room} {as' : Array Value} {Q : Option Value → Heap → List Loc → Prop} {own C : String} {index : Nat} {ps : List FieldType}
theorem g_pure {V : Option Value} {rest : List Value} (h1 : rm.cells = 0) (h2 : rm.slots = 0) (G : ∀ T', Stand p l e R s m args below meth c T' locs cells slots → T'.heap = h → Go p e below W (T'.setTop (mkF m q Ls (V.toList ++ rest)))) :
    ∀ v T' L, Stand p l e R s m args below meth c T' (locs ++ L) (cells + rm.cells) (slots + rm.slots) → Pur V h v T'.heap L → Go p e below W (T'.setTop (mkF m q Ls (v.toList ++ rest))) := by
  intro v T' L X' hQ
  obtain ⟨rfl, rfl, e'⟩ := hQ
  rw [h1, h2, List.append_nil] at X'
  exact G T' X' e'
theorem g_callS (X : Stand p l e R s m args below meth c T locs cells slots) (hx : p.tables.exec = Jvm.exec) (hZ : Z.Warmed39 s.vm) (hown : s.vm.findClass own = some m.cls) (w1 : (Jvm.Cond.methodLink own index y).before a0 Z = true) (w2 : (Jvm.Cond.static y).before a0 Z = true) (w3 : (Jvm.Cond.initialized y.cls).before a0 Z = true) (w4 : (Jvm.Cond.code y bytes ml ret).before a0 Z = true)
    (hy : y.cls ≠ "java/lang/invoke/MethodHandle" ∧ y.cls ≠ "java/lang/invoke/VarHandle") (eT : T.heap = h) (hM : Con l Z h y bytes ml ret rm as' Q) (hsz : Ls.size = c.maxLocals) {argsL rest : List Value} (hst : St = argsL.reverse ++ rest) (has : argsL.toArray = as') (hpd : parseMethodDescriptor y.desc = some ⟨ps, r⟩) (hln : argsL.length = ps.length)
    (hf : rm.frames + 1 ≤ R.frames) (hl : (rest.map fun v => v.category).sum + (ml + 11) + rm.locals ≤ R.locals) (hc : cells + rm.cells ≤ R.cells) (hs : slots + rm.slots ≤ R.slots) (hd : decode c.code pc = .ok (.invokestatic index, 3)) (hq : pc + 3 = q)
    (G : ∀ v T' L, Stand p l e R s m args below meth c T' (locs ++ L) (cells + rm.cells) (slots + rm.slots) → Q v T'.heap L → Go p e below W (T'.setTop (mkF m q Ls (v.toList ++ rest)))) : Go p e below W (T.setTop (mkF m pc Ls St)) := by
  subst hq has
  obtain ⟨v, _, ⟨T', L', k', n'⟩, -, X', ⟨L, hQ, l', y', z'⟩, st⟩ := Jvm.LawKit.callS X hx hown (mvT hZ w1) (mvT hZ w2) (mvT hZ w3) (mvT hZ w4) hy (backOf (W := (rest.map fun v => v.category).sum) (hM []) hZ w4 w3 hf hl) (g := mkF m pc Ls St) rfl hsz (argsL := argsL) (rest := rest) (lenOf hpd hln) hst (by simp) hd (fun _ _ => ⟨rfl, eT, hc, hs⟩)
  dsimp only [Pt.U, Pt.locs, Pt.cells, Pt.slots] at X' l' y' z' st hQ
  subst l' y' z'
  exact (G v T' L X' hQ).on st
theorem g_callV (X : Stand p l e R s m args below meth c T locs cells slots) (hx : p.tables.exec = Jvm.exec) (hZ : Z.Warmed39 s.vm) (hown : s.vm.findClass own = some m.cls) (w1 : (Jvm.Cond.methodLink own index y).before a0 Z = true) (w2 : (Jvm.Cond.declares y).before a0 Z = true) (w3 : (Jvm.Cond.selects C y z).before a0 Z = true) (w4 : (Jvm.Cond.instanceMethod z).before a0 Z = true) (w5 : (Jvm.Cond.code z bytes ml ret).before a0 Z = true) (w6 : (Jvm.Cond.initialized z.cls).before a0 Z = true)
    (hnf : NotFace s y) (hy : y.cls ≠ "java/lang/invoke/MethodHandle" ∧ y.cls ≠ "java/lang/invoke/VarHandle") (eT : T.heap = h) {b : Addr} (E : Exa Z h b C) (hM : Con l Z h z bytes ml ret rm as' Q) (hsz : Ls.size = c.maxLocals) {argsL rest : List Value} (hst : St = argsL.reverse ++ .ref b :: rest) (has : (Value.ref b :: argsL).toArray = as') (hpd : parseMethodDescriptor y.desc = some ⟨ps, r⟩) (hln : argsL.length = ps.length)
    (hf : rm.frames + 1 ≤ R.frames) (hl : (rest.map fun v => v.category).sum + (ml + 11) + rm.locals ≤ R.locals) (hc : cells + rm.cells ≤ R.cells) (hs : slots + rm.slots ≤ R.slots) (hd : decode c.code pc = .ok (.invokevirtual index, 3)) (hq : pc + 3 = q)
    (G : ∀ v T' L, Stand p l e R s m args below meth c T' (locs ++ L) (cells + rm.cells) (slots + rm.slots) → Q v T'.heap L → Go p e below W (T'.setTop (mkF m q Ls (v.toList ++ rest)))) : Go p e below W (T.setTop (mkF m pc Ls St)) := by
  subst hq has
  obtain ⟨cq, kq, qa, qb, qc⟩ := isOf hZ eT E
  obtain ⟨v, _, ⟨T', L', k', n'⟩, -, X', ⟨L, hQ, l', y', z'⟩, st⟩ := X.virtualBack hx hown (mvT hZ w1) (mvT hZ w2) hnf (mvT hZ w3) (mvT hZ w4) hy (backOf (W := (rest.map fun v => v.category).sum) (hM []) hZ w5 w6 hf hl) qa qc (g := mkF m pc Ls St) rfl hsz (Steps.refl _) (argsL := argsL) (rest := rest) (lenOf hpd hln) hst (by simp) hd (fun _ _ => ⟨rfl, eT, hc, hs⟩)
  dsimp only [Pt.U, Pt.locs, Pt.cells, Pt.slots] at X' l' y' z' st hQ
  subst l' y' z'
  exact (G v T' L X' hQ).on fun t k => st.trans k
theorem g_callI (X : Stand p l e R s m args below meth c T locs cells slots) (hx : p.tables.exec = Jvm.exec) (hZ : Z.Warmed39 s.vm) (hown : s.vm.findClass own = some m.cls) (hnm : y.name = "<init>") (w1 : (Jvm.Cond.methodLink own index y).before a0 Z = true) (w2 : (Jvm.Cond.instanceMethod y).before a0 Z = true) (w3 : (Jvm.Cond.code y bytes ml none).before a0 Z = true) (w4 : (Jvm.Cond.initialized y.cls).before a0 Z = true)
    (hy : y.cls ≠ "java/lang/invoke/MethodHandle" ∧ y.cls ≠ "java/lang/invoke/VarHandle") (eT : T.heap = h) {b : Addr} (hM : Con l Z h y bytes ml none rm as' Q) (hsz : Ls.size = c.maxLocals) {argsL rest : List Value} (hst : St = argsL.reverse ++ .ref b :: rest) (has : (Value.ref b :: argsL).toArray = as') (hpd : parseMethodDescriptor y.desc = some ⟨ps, r⟩) (hln : argsL.length = ps.length)
    (hf : rm.frames + 1 ≤ R.frames) (hl : (rest.map fun v => v.category).sum + (ml + 11) + rm.locals ≤ R.locals) (hc : cells + rm.cells ≤ R.cells) (hs : slots + rm.slots ≤ R.slots) (hd : decode c.code pc = .ok (.invokespecial index, 3)) (hq : pc + 3 = q)
    (G : ∀ v T' L, Stand p l e R s m args below meth c T' (locs ++ L) (cells + rm.cells) (slots + rm.slots) → Q v T'.heap L → Go p e below W (T'.setTop (mkF m q Ls (v.toList ++ rest)))) : Go p e below W (T.setTop (mkF m pc Ls St)) := by
  subst hq has
  obtain ⟨v, _, ⟨T', L', k', n'⟩, -, X', ⟨L, hQ, l', y', z'⟩, st⟩ := X.specialBack hx (y := y) hnm hown (mvT hZ w1) (mvT hZ w2) (mvT hZ w3) hy (backOf (W := (rest.map fun v => v.category).sum) (hM []) hZ w3 w4 hf hl) (g := mkF m pc Ls St) rfl hsz (Steps.refl _) (a := b) (argsL := argsL) (rest := rest) (lenOf hpd hln) hst (by simp) hd (fun _ _ => ⟨rfl, eT, hc, hs⟩)
  dsimp only [Pt.U, Pt.locs, Pt.cells, Pt.slots] at X' l' y' z' st hQ
  subst l' y' z'
  exact (G v T' L X' hQ).on fun t k => st.trans k
end Calls
end OwnKit
section OwnMore
theorem own_sta_keep {Z : State} {h h' : Heap} {C n d : String} {w : Value} {ws : List Addr} (F : Sta Z h C n d w) (K : Keep h h' ws) (hn : ∀ x ∈ ws, ∀ cell : Cell, h[x]? = some cell → cell.vm.isStatics = false) : Sta Z h' C n d w := by
  obtain ⟨cf, i, k, f, st, cell, h1, h2, h3, h4, h5, h6, h7⟩ := F
  exact ⟨cf, i, k, f, st, cell, h1, h2, h3, h4, K.2.1 _ _ h5 (fun q => by rw [hn _ q _ h5] at h6; cases h6), h6, h7⟩
theorem own_cat1 {v : Value} (h : v.isRef = true) : v.category = 1 := by cases v <;> first | rfl | cases h
theorem own_nar {C : String} {v : Value} (h : v.isRef = true) : narrow (.object C) v = v := by cases v <;> first | rfl | cases h
theorem own_fit {C : String} {v : Value} (h : v.isRef = true) : fits (.object C) v = true := by cases v <;> first | rfl | cases h
theorem own_noref {a b : Addr} (h : ¬ a = b) : ¬ (Value.ref a = Value.ref b) := fun q => h (Value.ref.inj q)
end OwnMore
section OwnStart
variable {args : Array Value} {s : State}
theorem own_fldI {t : Term} {C n d : String} {k : Int32} {a : Addr} (ev : t.eval args s none [] s = some (.ref a)) (hh : (Jvm.Cond.eq (Term.field t C n d) (Term.int k)).value args s none s [] = some true) : Fld s s.heap a C n d (.int k) := by
  obtain ⟨x, y, e1, e2, k1, k2⟩ := cmp_v (Or.inl hh)
  obtain rfl : y = .int k := (Option.some.inj ((Term.int_eval k).symm.trans e2)).symm
  obtain ⟨z, rfl⟩ := k2
  have q : z = k := by simpa [Cond.value, e1, e2] using hh
  subst q
  exact Fld.start ((fld_at ev).symm.trans e1)
theorem own_fldJ {t : Term} {C n d : String} {k : Int64} {a : Addr} (ev : t.eval args s none [] s = some (.ref a)) (hh : (Jvm.Cond.eq (Term.field t C n d) (Term.long k)).value args s none s [] = some true) : Fld s s.heap a C n d (.long k) := by
  obtain ⟨x, y, e1, e2, k1, k2⟩ := cmp_v (Or.inl hh)
  obtain rfl : y = .long k := (Option.some.inj ((long_at k).symm.trans e2)).symm
  obtain ⟨z, rfl⟩ := k2
  have q : z = k := by simpa [Cond.value, e1, e2] using hh
  subst q
  exact Fld.start ((fld_at ev).symm.trans e1)
end OwnStart
section OwnArr
variable {p : Program} {l : Launch} {e : Env} {R : Room} {s : State} {m : MethodId} {args : Array Value} {below : List Frame} {meth : Method} {c : Code} {T : State} {locs : List Loc} {cells slots : Nat} {Z : State} {a0 : Array Value} {h h' : Heap} {W : State → Prop} {pc q : Nat} {Ls : Array Slot} {St : List Value} {ty : FieldType} {n : Nat} {f g : Nat → Value} {a b : Addr} {sl : Nat} {v : Value}
/-- the array at a: of ty, n places, place i holds f i -/
def Af (Z : State) (h : Heap) (a : Addr) (ty : FieldType) (n : Nat) (f : Nat → Value) : Prop := ∃ cl : Cell, Arr Z h a cl ty ∧ cl.slots.size = n ∧ ∀ i, i < n → cl.slots[i]? = some (f i)
theorem Af.lt (F : Af Z h a ty n f) : a < h.size := by obtain ⟨c, A, -⟩ := F; exact A.lt
theorem Af.ext (F : Af Z h a ty n f) (E : Ext h h') : Af Z h' a ty n f := by obtain ⟨c, A, r⟩ := F; exact ⟨c, A.ext E, r⟩
theorem Af.other (F : Af Z h b ty n f) (W : Wr h h' a sl v) (q : b ≠ a) : Af Z h' b ty n f := by obtain ⟨c, A, r⟩ := F; exact ⟨c, A.other W q, r⟩
theorem Af.keep {ws : List Addr} (F : Af Z h a ty n f) (K : Keep h h' ws) (q : a ∉ ws) : Af Z h' a ty n f := by obtain ⟨c, A, r⟩ := F; exact ⟨c, ⟨K.2.1 a c A.1 q, A.2⟩, r⟩
theorem Af.nostat (F : Af Z h a ty n f) : ∀ cell : Cell, h[a]? = some cell → cell.vm.isStatics = false := by
  obtain ⟨c, A, -⟩ := F; exact A.nostat
theorem Af.congr (F : Af Z h a ty n f) (q : ∀ i, i < n → f i = g i) : Af Z h a ty n g := by
  obtain ⟨c, A, s1, s2⟩ := F; exact ⟨c, A, s1, fun i hi => by rw [← q i hi]; exact s2 i hi⟩
theorem Af.fresh {k : ClassId} {z : Int32} (A : Arr Z h a (newA k ty z) ty) : Af Z h a ty z.toNatClampNeg (fun _ => defaultValue ty) := ⟨_, A, sz_new _ _ _, fun i hi => by simp [newA, hi]⟩
theorem Af.set (F : Af Z h a ty n f) {j : Nat} (W : Wr h h' a j v) (hj : j < n) : Af Z h' a ty n (fun i => if i = j then v else f i) := by
  obtain ⟨c, A, s1, s2⟩ := F
  refine ⟨c.setSlot j v, A.same W, by rw [sz_set]; exact s1, fun i hi => ?_⟩
  show (c.slots.setIfInBounds j v)[i]? = some (if i = j then v else f i)
  by_cases hij : i = j
  · subst hij; rw [if_pos rfl, Array.getElem?_setIfInBounds_self_of_lt (by rw [s1]; exact hj)]
  · rw [if_neg hij, Array.getElem?_setIfInBounds_ne (Ne.symm hij)]; exact s2 i hi
theorem Af.size_eq {n' : Nat} (F : Af Z h a ty n f) (q : n = n') : Af Z h a ty n' f := q ▸ F
theorem g_len (X : Stand p l e R s m args below meth c T locs cells slots) (hx : p.tables.exec = Jvm.exec) (hZ : Z.Warmed39 s.vm) (eT : T.heap = h) (V : Af Z h a ty n f) {z : Int32} (hz : n.toInt32 = z) (hd : decode c.code pc = .ok (.arraylength, 1)) (hq : pc + 1 = q)
    (G : Go p e below W (T.setTop (mkF m q Ls (.int z :: St)))) : Go p e below W (T.setTop (mkF m pc Ls (.ref a :: St))) := by
  obtain ⟨cl, A, s1, s2⟩ := V
  subst hq hz
  exact G.on fun t k => X.arraylength hx (by rw [eT]; exact A.1) (State.isArrayOf_alike hZ.alike A.2.1) (g := mkF m pc Ls (.ref a :: St)) rfl rfl hd t (by rw [s1]; exact k)
section Loads
variable {j : Int32}
theorem own_in {cl : Cell} (s1 : cl.slots.size = n) (h0 : ¬ j < 0) (h1 : j.toNatClampNeg < n) : ¬ (j < 0 ∨ cl.slots.size ≤ j.toNatClampNeg) := fun q => q.elim h0 fun r => absurd h1 (by omega)
theorem g_iaload (X : Stand p l e R s m args below meth c T locs cells slots) (hx : p.tables.exec = Jvm.exec) (hZ : Z.Warmed39 s.vm) (eT : T.heap = h) (V : Af Z h a .int n f) (h0 : ¬ j < 0) (h1 : j.toNatClampNeg < n) (hv : f j.toNatClampNeg = v) (hd : decode c.code pc = .ok (.iaload, 1)) (hq : pc + 1 = q)
    (G : Go p e below W (T.setTop (mkF m q Ls (v :: St)))) : Go p e below W (T.setTop (mkF m pc Ls (.int j :: .ref a :: St))) := by
  obtain ⟨cl, A, s1, s2⟩ := V
  subst hq hv
  exact G.on fun t k => X.iaload hx (by rw [eT]; exact A.1) (State.isArrayOf_alike hZ.alike A.2.1) A.2.2 (own_in s1 h0 h1) (s2 _ h1) (g := mkF m pc Ls (.int j :: .ref a :: St)) rfl rfl hd t k
theorem g_laload (X : Stand p l e R s m args below meth c T locs cells slots) (hx : p.tables.exec = Jvm.exec) (hZ : Z.Warmed39 s.vm) (eT : T.heap = h) (V : Af Z h a .long n f) (h0 : ¬ j < 0) (h1 : j.toNatClampNeg < n) (hv : f j.toNatClampNeg = v) (hd : decode c.code pc = .ok (.laload, 1)) (hq : pc + 1 = q)
    (G : Go p e below W (T.setTop (mkF m q Ls (v :: St)))) : Go p e below W (T.setTop (mkF m pc Ls (.int j :: .ref a :: St))) := by
  obtain ⟨cl, A, s1, s2⟩ := V
  subst hq hv
  exact G.on fun t k => X.laload hx (by rw [eT]; exact A.1) (State.isArrayOf_alike hZ.alike A.2.1) A.2.2 (own_in s1 h0 h1) (s2 _ h1) (g := mkF m pc Ls (.int j :: .ref a :: St)) rfl rfl hd t k
theorem g_baload (X : Stand p l e R s m args below meth c T locs cells slots) (hx : p.tables.exec = Jvm.exec) (hZ : Z.Warmed39 s.vm) (eT : T.heap = h) (V : Af Z h a .byte n f) (h0 : ¬ j < 0) (h1 : j.toNatClampNeg < n) (hv : f j.toNatClampNeg = v) (hd : decode c.code pc = .ok (.baload, 1)) (hq : pc + 1 = q)
    (G : Go p e below W (T.setTop (mkF m q Ls (v :: St)))) : Go p e below W (T.setTop (mkF m pc Ls (.int j :: .ref a :: St))) := by
  obtain ⟨cl, A, s1, s2⟩ := V
  subst hq hv
  exact G.on fun t k => X.baloadBytes hx (by rw [eT]; exact A.1) (State.isArrayOf_alike hZ.alike A.2.1) A.2.2 (own_in s1 h0 h1) (s2 _ h1) (g := mkF m pc Ls (.int j :: .ref a :: St)) rfl rfl hd t k
theorem g_aaload (X : Stand p l e R s m args below meth c T locs cells slots) (hx : p.tables.exec = Jvm.exec) (hZ : Z.Warmed39 s.vm) (eT : T.heap = h) (V : Af Z h a ty n f) (hty : ty.isReference = true) (h0 : ¬ j < 0) (h1 : j.toNatClampNeg < n) (hv : f j.toNatClampNeg = v) (hd : decode c.code pc = .ok (.aaload, 1)) (hq : pc + 1 = q)
    (G : Go p e below W (T.setTop (mkF m q Ls (v :: St)))) : Go p e below W (T.setTop (mkF m pc Ls (.int j :: .ref a :: St))) := by
  obtain ⟨cl, A, s1, s2⟩ := V
  subst hq hv
  exact G.on fun t k => X.aaload hx (by rw [eT]; exact A.1) (State.isArrayOf_alike hZ.alike A.2.1) hty A.2.2 (own_in s1 h0 h1) (s2 _ h1) (g := mkF m pc Ls (.int j :: .ref a :: St)) rfl rfl hd t k
theorem g_bastore (X : Stand p l e R s m args below meth c T locs cells slots) (hx : p.tables.exec = Jvm.exec) (hZ : Z.Warmed39 s.vm) (eT : T.heap = h) (V : Af Z h a .byte n f) {x y : Int32} (h0 : ¬ j < 0) (h1 : j.toNatClampNeg < n) (hy : nar .byte x = y) (hd : decode c.code pc = .ok (.bastore, 1)) (hq : pc + 1 = q)
    (G : ∀ T' h', Stand p l e R s m args below meth c T' (locs ++ [⟨a, j.toNatClampNeg⟩]) cells slots → T'.heap = h' → Wr h h' a j.toNatClampNeg (.int y) → Af Z h' a .byte n (fun i => if i = j.toNatClampNeg then .int y else f i) → Go p e below W (T'.setTop (mkF m q Ls St))) : Go p e below W (T.setTop (mkF m pc Ls (.int x :: .int j :: .ref a :: St))) := by
  have V' := V
  obtain ⟨cl, A, s1, s2⟩ := V
  subst hq hy
  obtain ⟨T', h', X', e', W', st⟩ := stB X hx hZ eT A (own_in s1 h0 h1) (g := mkF m pc Ls (.int x :: .int j :: .ref a :: St)) rfl rfl hd
  exact (G T' h' X' e' W' (V'.set W' h1)).on st
theorem g_lastore (X : Stand p l e R s m args below meth c T locs cells slots) (hx : p.tables.exec = Jvm.exec) (hZ : Z.Warmed39 s.vm) (eT : T.heap = h) (V : Af Z h a .long n f) {x : Int64} (h0 : ¬ j < 0) (h1 : j.toNatClampNeg < n) (hd : decode c.code pc = .ok (.lastore, 1)) (hq : pc + 1 = q)
    (G : ∀ T' h', Stand p l e R s m args below meth c T' (locs ++ [⟨a, j.toNatClampNeg⟩]) cells slots → T'.heap = h' → Wr h h' a j.toNatClampNeg (.long x) → Af Z h' a .long n (fun i => if i = j.toNatClampNeg then .long x else f i) → Go p e below W (T'.setTop (mkF m q Ls St))) : Go p e below W (T.setTop (mkF m pc Ls (.long x :: .int j :: .ref a :: St))) := by
  have V' := V
  obtain ⟨cl, A, s1, s2⟩ := V
  subst hq
  obtain ⟨T', h', X', e', W', st⟩ := stJ X hx hZ eT A (own_in s1 h0 h1) (g := mkF m pc Ls (.long x :: .int j :: .ref a :: St)) rfl rfl hd
  exact (G T' h' X' e' W' (V'.set W' h1)).on st
theorem g_iastore (X : Stand p l e R s m args below meth c T locs cells slots) (hx : p.tables.exec = Jvm.exec) (hZ : Z.Warmed39 s.vm) (eT : T.heap = h) (V : Af Z h a .int n f) {x : Int32} (h0 : ¬ j < 0) (h1 : j.toNatClampNeg < n) (hd : decode c.code pc = .ok (.iastore, 1)) (hq : pc + 1 = q)
    (G : ∀ T' h', Stand p l e R s m args below meth c T' (locs ++ [⟨a, j.toNatClampNeg⟩]) cells slots → T'.heap = h' → Wr h h' a j.toNatClampNeg (.int x) → Af Z h' a .int n (fun i => if i = j.toNatClampNeg then .int x else f i) → Go p e below W (T'.setTop (mkF m q Ls St))) : Go p e below W (T.setTop (mkF m pc Ls (.int x :: .int j :: .ref a :: St))) := by
  have V' := V
  obtain ⟨cl, A, s1, s2⟩ := V
  subst hq
  obtain ⟨T', h', X', e', W', st⟩ := stI X hx hZ eT A (own_in s1 h0 h1) (g := mkF m pc Ls (.int x :: .int j :: .ref a :: St)) rfl rfl hd
  exact (G T' h' X' e' W' (V'.set W' h1)).on st
theorem g_aastore (X : Stand p l e R s m args below meth c T locs cells slots) (hx : p.tables.exec = Jvm.exec) (hZ : Z.Warmed39 s.vm) (eT : T.heap = h) (V : Af Z h a ty n f) (hty : ty.isReference = true) (h0 : ¬ j < 0) (h1 : j.toNatClampNeg < n) (F : Sto Z h a v) (hd : decode c.code pc = .ok (.aastore, 1)) (hq : pc + 1 = q)
    (G : ∀ T' h', Stand p l e R s m args below meth c T' (locs ++ [⟨a, j.toNatClampNeg⟩]) cells slots → T'.heap = h' → Wr h h' a j.toNatClampNeg v → Af Z h' a ty n (fun i => if i = j.toNatClampNeg then v else f i) → Go p e below W (T'.setTop (mkF m q Ls St))) : Go p e below W (T.setTop (mkF m pc Ls (v :: .int j :: .ref a :: St))) := by
  have V' := V
  obtain ⟨cl, A, s1, s2⟩ := V
  subst hq
  obtain ⟨T', h', X', e', W', st⟩ := stR X hx hZ eT A (own_in s1 h0 h1) hty F (g := mkF m pc Ls (v :: .int j :: .ref a :: St)) rfl rfl hd
  exact (G T' h' X' e' W' (V'.set W' h1)).on st
end Loads
theorem g_newR (X : Stand p l e R s m args below meth c T locs cells slots) (hx : p.tables.exec = Jvm.exec) (hZ : Z.Warmed39 s.vm) {own C : String} {index : Nat} (hown : s.vm.findClass own = some m.cls) (w1 : (Jvm.Cond.classLink own index C).before a0 Z = true) (w2 : (Jvm.Cond.arrayOver (.object C)).before a0 Z = true) (eT : T.heap = h) (hd : decode c.code pc = .ok (.anewarray index, 3)) {z : Int32} (hn : ¬ z < 0) {cap : Nat} (hcap : z.toNatClampNeg ≤ cap) (hb : cap * 8 ≤ 536870912) (hc : cells + 1 ≤ R.cells) (hl : slots + cap ≤ R.slots) (hq : pc + 3 = q)
    (G : ∀ T' h' cA b, b = h.size → Stand p l e R s m args below meth c T' locs (cells + 1) (slots + cap) → T'.heap = h' → Ext h h' → Arr Z h' b (newA cA (.object C) z) (.object C) → Ovr Z cA C → Go p e below W (T'.setTop (mkF m q Ls (.ref b :: St)))) :
    Go p e below W (T.setTop (mkF m pc Ls (.int z :: St))) := by
  subst hq
  obtain ⟨T', h', cA, X', e', E', A', O', st⟩ := newR X hx hZ hown w1 w2 eT (g := mkF m pc Ls (.int z :: St)) rfl hd rfl hn hcap hb hc hl
  exact (G T' h' cA _ rfl X' e' E' A' O').on st
/-- an array over C takes an object of C; carried over steps -/
def Ov (Z : State) (h : Heap) (a : Addr) (C : String) : Prop := ∃ cl : Cell, Arr Z h a cl (.object C) ∧ Ovr Z cl.cls C
theorem Ov.sto {C : String} {y : Addr} (O : Ov Z h a C) (I : Ins Z h y C true) : Sto Z h a (.ref y) := by obtain ⟨cl, A, o⟩ := O; exact Sto.of A o I
theorem Ov.fresh {k : ClassId} {z : Int32} {C : String} (A : Arr Z h a (newA k (.object C) z) (.object C)) (O : Ovr Z k C) : Ov Z h a C := ⟨_, A, O⟩
theorem Ov.ext {C : String} (O : Ov Z h a C) (E : Ext h h') : Ov Z h' a C := by obtain ⟨cl, A, o⟩ := O; exact ⟨cl, A.ext E, o⟩
theorem Ov.wr {C : String} (O : Ov Z h a C) (W : Wr h h' b sl v) : Ov Z h' a C := by
  obtain ⟨cl, A, o⟩ := O
  by_cases q : a = b
  · subst q; exact ⟨_, A.same W, o⟩
  · exact ⟨cl, A.other W q, o⟩
end OwnArr
section OwnCase
variable {args : Array Value} {s : State} {t : Term} {a : Addr} {cl : Cell} {ty : FieldType}
theorem own_lenN {k : Int32} (A : Arr s s.heap a cl ty) (ev : t.eval args s none [] s = some (.ref a)) (hh : (Jvm.Cond.eq (Term.length t) (Term.int k)).value args s none s [] = some true) : cl.slots.size = k.toNatClampNeg := by
  have ha := A.fin (Vm.Alike.refl _)
  obtain ⟨x, y, e1, e2, -, -⟩ := cmp_v (Or.inl hh)
  have hlt : cl.slots.size < 2 ^ 31 := by
    by_cases q : cl.slots.size < 2 ^ 31
    · exact q
    · exfalso
      simp only [Term.eval, ev, ha, Option.bind_eq_bind, Option.bind_some, if_neg q] at e1
      cases e1
  have e3 := len_f ev ha hlt
  have q : cl.slots.size.toInt32 = k := by simpa [Cond.value, e3, Term.int_eval] using hh
  rw [← q]
  have := len_toInt hlt
  simp only [Int32.toNatClampNeg, this]
  omega
theorem own_el {j k : Int32} (A : Arr s s.heap a cl ty) (ev : t.eval args s none [] s = some (.ref a)) (hh : (Jvm.Cond.eq (Term.elem t (Term.int j)) (Term.int k)).value args s none s [] = some true) : cl.slots[j.toNatClampNeg]? = some (.int k) := by
  obtain ⟨x, y, e1, e2, k1, k2⟩ := cmp_v (Or.inl hh)
  obtain rfl : y = .int k := (Option.some.inj ((Term.int_eval k).symm.trans e2)).symm
  obtain ⟨z, rfl⟩ := k2
  have q : z = k := by simpa [Cond.value, e1, e2] using hh
  subst q
  exact (elem_in e1 ev (Term.int_eval j) A.1).2
theorem own_index {i : Nat} {o : Option Outcome} : (Term.index 0).eval args s o [i] s = some (.int i.toInt32) := rfl
theorem own_elx {i : Nat} (hi : i < 2 ^ 31) (A : Arr s s.heap a cl ty) (ev : t.eval args s none [i] s = some (.ref a)) (hh : (Jvm.Cond.eq (Term.elem t (Term.index 0)) (Term.index 0)).value args s none s [i] = some true) : cl.slots[i]? = some (.int (Int32.ofNat i)) := by
  obtain ⟨x, y, e1, e2, k1, k2⟩ := cmp_v (Or.inl hh)
  obtain rfl : y = .int i.toInt32 := (Option.some.inj (own_index.symm.trans e2)).symm
  obtain ⟨z, rfl⟩ := k2
  have q : z = i.toInt32 := by simpa [Cond.value, e1, e2] using hh
  subst q
  have r := (elem_in e1 ev own_index A.1).2
  have : i.toInt32.toNatClampNeg = i := by simp [Int32.toNatClampNeg, len_toInt hi]
  rw [this] at r
  exact r
end OwnCase
section OwnCase2
variable {args : Array Value} {s : State} {t : Term} {a : Addr} {cl : Cell} {ty : FieldType} {n : Nat}
theorem own_allx (hn : n ≤ 2 ^ 31) (A : Arr s s.heap a cl ty) (L : cl.slots.size = n) (ev : t.eval args s none [] s = some (.ref a)) (ev' : ∀ i, t.eval args s none [i] s = some (.ref a)) (hh : (Jvm.Cond.all t (Jvm.Cond.eq (Term.elem t (Term.index 0)) (Term.index 0))).value args s none s [] = some true) (i : Nat) (hi : i < n) : cl.slots[i]? = some (.int (Int32.ofNat i)) :=
  own_elx (Nat.lt_of_lt_of_le hi hn) A (ev' i) (Cond.all_elim ev (A.fin (Vm.Alike.refl _)) hh i (by rw [L]; exact hi))
theorem own_ally {k : Int32} (hn : n ≤ 2 ^ 31) (A : Arr s s.heap a cl ty) (L : cl.slots.size = n) (ev : t.eval args s none [] s = some (.ref a)) (ev' : ∀ i, t.eval args s none [i] s = some (.ref a)) (hh : (Jvm.Cond.all t (Jvm.Cond.or (Jvm.Cond.lt (Term.index 0) (Term.int k)) (Jvm.Cond.eq (Term.elem t (Term.index 0)) (Term.index 0)))).value args s none s [] = some true) (i : Nat) (hi : i < n) (hk : k.toInt ≤ i) : cl.slots[i]? = some (.int (Int32.ofNat i)) := by
  have h := Cond.all_elim ev (A.fin (Vm.Alike.refl _)) hh i (by rw [L]; exact hi)
  have hi' : i < 2 ^ 31 := Nat.lt_of_lt_of_le hi hn
  have hf : (Jvm.Cond.lt (Term.index 0) (Term.int k)).value args s none s [i] = some false := by
    have q : ¬ i.toInt32 < k := by rw [Int32.lt_iff_toInt_lt, len_toInt hi']; omega
    simp [Cond.value, Term.index_eval, Term.int_eval, q]
  rw [Cond.or_of_right hf] at h
  exact own_elx hi' A (ev' i) h
end OwnCase2
def own_byte (hi lo : Int64) (j : Int32) : Int32 := if j < (8 : Int32) then (((hi.toUInt64 >>> (((56 : Int32) - ((8 : Int32) * j)) &&& 0x3f).toInt64.toUInt64).toInt64).toInt32).toInt8.toInt32 else (((lo.toUInt64 >>> (((120 : Int32) - ((8 : Int32) * j)) &&& 0x3f).toInt64.toUInt64).toInt64).toInt32).toInt8.toInt32
theorem own_i8 (x : Int32) : x.toInt8.toInt32.toInt8.toInt32 = x.toInt8.toInt32 := by simp
theorem own_byte_nar (hi lo : Int64) (j : Int32) : nar .byte (own_byte hi lo j) = own_byte hi lo j := by
  show (own_byte hi lo j).toInt8.toInt32 = own_byte hi lo j
  unfold own_byte; split <;> exact own_i8 _
def own_src (ar w1 w2 : Addr) (i : Int32) : Int32 := if ar = w1 then (if i < (8 : Int32) then (7 : Int32) - i else (23 : Int32) - i) else if ar = w2 then (if i < (4 : Int32) then (3 : Int32) - i else if i < (6 : Int32) then (9 : Int32) - i else if i < (8 : Int32) then (13 : Int32) - i else i) else i
theorem own_fill {Z : State} {h : Heap} {a : Addr} {ty : FieldType} {n : Nat} {F : Nat → Value} {d : Value} (k : Nat) (V : Af Z h a ty n (fun i => if i = k then F k else if i < k then F i else d)) : Af Z h a ty n (fun i => if i < k + 1 then F i else d) := by
  refine V.congr fun i hi => ?_
  by_cases h1 : i = k
  · subst h1; simp
  · by_cases h2 : i < k
    · have h3 : i < k + 1 := by omega
      simp only [if_neg h1, if_pos h2, if_pos h3]
    · have h3 : ¬ i < k + 1 := by omega
      simp only [if_neg h1, if_neg h2, if_neg h3]
theorem own_tn {t : Nat} (h : t ≤ 16) : (Int32.ofNat t).toNatClampNeg = t := by
  have : (Int32.ofNat t).toInt = t := Int32.toInt_ofNat_of_lt (by omega)
  simp [Int32.toNatClampNeg, this]
theorem own_lt16 {t : Nat} (h : t ≤ 16) : Int32.ofNat t < (16 : Int32) ↔ t < 16 := by
  have : (Int32.ofNat t).toInt = t := Int32.toInt_ofNat_of_lt (by omega)
  rw [Int32.lt_iff_toInt_lt, this]
  have h16 : (16 : Int32).toInt = 16 := rfl
  omega
theorem own_nn {t : Nat} (h : t ≤ 16) : ¬ Int32.ofNat t < 0 := by
  have : (Int32.ofNat t).toInt = t := Int32.toInt_ofNat_of_lt (by omega)
  rw [Int32.lt_iff_toInt_lt, this]
  have h0 : (0 : Int32).toInt = 0 := rfl
  omega
theorem own_succ (t : Nat) : Int32.ofNat t + Int32.ofInt 1 = Int32.ofNat (t + 1) := (Int32.ofNat_add t 1).symm
theorem own_back {j : Int32} (h : ¬ j < 0) : Int32.ofNat j.toNatClampNeg = j := (back32 h).1
theorem own_mod5 (k : Int32) : (k &&& (2147483647 : Int32)) % (5 : Int32) = 0 ∨ (k &&& (2147483647 : Int32)) % (5 : Int32) = 1 ∨ (k &&& (2147483647 : Int32)) % (5 : Int32) = 2 ∨ (k &&& (2147483647 : Int32)) % (5 : Int32) = 3 ∨ (k &&& (2147483647 : Int32)) % (5 : Int32) = 4 := by
  have h1 := c_and k (2147483647 : Int32) (by decide)
  have h2 := (c_irem (k &&& (2147483647 : Int32)) (5 : Int32) 5 rfl).1 h1.1
  have h3 : 0 ≤ ((k &&& (2147483647 : Int32)) % (5 : Int32)).toInt ∧ ((k &&& (2147483647 : Int32)) % (5 : Int32)).toInt < 5 := by rw [h2]; omega
  generalize (k &&& (2147483647 : Int32)) % (5 : Int32) = x at h3
  have e0 : (0 : Int32).toInt = 0 := rfl
  have e1 : (1 : Int32).toInt = 1 := rfl
  have e2 : (2 : Int32).toInt = 2 := rfl
  have e3 : (3 : Int32).toInt = 3 := rfl
  have e4 : (4 : Int32).toInt = 4 := rfl
  simp only [← Int32.toInt_inj]
  omega
def own_id (i : Nat) : Int32 := Int32.ofNat i
def own_java (i : Nat) : Int32 := if i < 8 then Int32.ofNat (7 - i) else Int32.ofNat (23 - i)
def own_cs (i : Nat) : Int32 := if i < 4 then Int32.ofNat (3 - i) else if i < 6 then Int32.ofNat (9 - i) else if i < 8 then Int32.ofNat (13 - i) else Int32.ofNat i
theorem own_id_in : ∀ i, i < 16 → ¬ own_id i < 0 ∧ (own_id i).toNatClampNeg < 16 := by decide
theorem own_java_in : ∀ i, i < 16 → ¬ own_java i < 0 ∧ (own_java i).toNatClampNeg < 16 := by decide
theorem own_cs_in : ∀ i, i < 16 → ¬ own_cs i < 0 ∧ (own_cs i).toNatClampNeg < 16 := by decide
theorem own_java_src : ∀ i, i < 16 → (if Int32.ofNat i < (8 : Int32) then (7 : Int32) - Int32.ofNat i else (23 : Int32) - Int32.ofNat i) = own_java i := by decide
theorem own_cs_src : ∀ i, i < 16 → (if Int32.ofNat i < (4 : Int32) then (3 : Int32) - Int32.ofNat i else if Int32.ofNat i < (6 : Int32) then (9 : Int32) - Int32.ofNat i else if Int32.ofNat i < (8 : Int32) then (13 : Int32) - Int32.ofNat i else Int32.ofNat i) = own_cs i := by decide
theorem own_cs_tail : ∀ i, i < 16 → ¬ i < 8 → own_cs i = Int32.ofNat i := by decide
theorem own_src_java {w1 w2 : Addr} (i : Nat) (hi : i < 16) : own_src w1 w1 w2 (Int32.ofNat i) = own_java i := by rw [own_src, if_pos rfl]; exact own_java_src i hi
theorem own_src_cs {w1 w2 : Addr} (h : ¬ w2 = w1) (i : Nat) (hi : i < 16) : own_src w2 w1 w2 (Int32.ofNat i) = own_cs i := by rw [own_src, if_neg h, if_pos rfl]; exact own_cs_src i hi
theorem own_src_id {a w1 w2 : Addr} (h1 : ¬ a = w1) (h2 : ¬ a = w2) (i : Nat) (hi : i < 16) : own_src a w1 w2 (Int32.ofNat i) = own_id i := by rw [own_src, if_neg h1, if_neg h2]; rfl
theorem pd_0 : parseMethodDescriptor "(Lcom/example/tidemark/tidemark/UuidRepresentation;I)I" = some ⟨[(.object "com/example/tidemark/tidemark/UuidRepresentation"), .int], some .int⟩ := by decide +kernel
theorem pd_1 : parseMethodDescriptor "(JJI)B" = some ⟨[.long, .long, .int], some .byte⟩ := by decide +kernel
theorem pd_2 : parseMethodDescriptor "([B)[B" = some ⟨[(.array .byte)], some (.array .byte)⟩ := by decide +kernel
theorem pd_3 : parseMethodDescriptor "(Lcom/example/tidemark/tidemark/UuidRepresentation;[B[BJJI)Z" = some ⟨[(.object "com/example/tidemark/tidemark/UuidRepresentation"), (.array .byte), (.array .byte), .long, .long, .int], some .boolean⟩ := by decide +kernel
theorem pn_0 : plainName "com/example/tidemark/tidemark/UuidRepresentationReorderPinLaw" = true := by first | (simp [plainName, overriddenIn]; done) | decide +kernel
theorem pn_1 : plainName "com/example/tidemark/tidemark/UuidRepresentation" = true := by first | (simp [plainName, overriddenIn]; done) | decide +kernel
theorem d1_0 : decode method_4_code 0 = .ok (.iload 4, 2) := by decide +kernel
theorem d1_2 : decode method_4_code 2 = .ok (.bipush 8, 2) := by decide +kernel
theorem d1_4 : decode method_4_code 4 = .ok (.if_icmp .ge 16, 3) := by decide +kernel
theorem d1_7 : decode method_4_code 7 = .ok (.lload_n 0, 1) := by decide +kernel
theorem d1_8 : decode method_4_code 8 = .ok (.bipush 56, 2) := by decide +kernel
theorem d1_10 : decode method_4_code 10 = .ok (.bipush 8, 2) := by decide +kernel
theorem d1_12 : decode method_4_code 12 = .ok (.iload 4, 2) := by decide +kernel
theorem d1_14 : decode method_4_code 14 = .ok (.imul, 1) := by decide +kernel
theorem d1_15 : decode method_4_code 15 = .ok (.isub, 1) := by decide +kernel
theorem d1_16 : decode method_4_code 16 = .ok (.lushr, 1) := by decide +kernel
theorem d1_17 : decode method_4_code 17 = .ok (.l2i, 1) := by decide +kernel
theorem d1_18 : decode method_4_code 18 = .ok (.i2b, 1) := by decide +kernel
theorem d1_19 : decode method_4_code 19 = .ok (.ireturn, 1) := by decide +kernel
theorem d1_20 : decode method_4_code 20 = .ok (.lload_n 2, 1) := by decide +kernel
theorem d1_21 : decode method_4_code 21 = .ok (.bipush 120, 2) := by decide +kernel
theorem d1_23 : decode method_4_code 23 = .ok (.bipush 8, 2) := by decide +kernel
theorem d1_25 : decode method_4_code 25 = .ok (.iload 4, 2) := by decide +kernel
theorem d1_27 : decode method_4_code 27 = .ok (.imul, 1) := by decide +kernel
theorem d1_28 : decode method_4_code 28 = .ok (.isub, 1) := by decide +kernel
theorem d1_29 : decode method_4_code 29 = .ok (.lushr, 1) := by decide +kernel
theorem d1_30 : decode method_4_code 30 = .ok (.l2i, 1) := by decide +kernel
theorem d1_31 : decode method_4_code 31 = .ok (.i2b, 1) := by decide +kernel
theorem d1_32 : decode method_4_code 32 = .ok (.ireturn, 1) := by decide +kernel
set_option maxRecDepth 65536 in
set_option maxHeartbeats 40000000 in
theorem rmB (l : Launch) (Z : State) (a0 : Array Value) (hw : ∀ d ∈ tables_1, d.before a0 Z = true) (hi lo : Int64) (j : Int32) (h0 : Heap) :
    Con l Z h0 (⟨"com/example/tidemark/tidemark/UuidRepresentationReorderPinLaw", "byteOf", "(JJI)B"⟩ : MethodName) method_4_code 5 (some .byte) ({ frames := 0, cells := 0, slots := 0, locals := 0 } : Room) #[(.long hi), (.long lo), (.int j)] (Pur (some (.int (own_byte hi lo j))) h0) := by
  refine con_of (plainFor_of_name pn_0) (Ls := #[.val (.long hi), .second, .val (.long lo), .second, .val (.int j)]) (fun m => by first | rfl | (simp [entryFrame, mkF, argsToLocals, Value.category]; done)) ?_
  intro p e s m below meth c s₁ hx hZ hby hml hret hlk hnm hown X0 e0
  refine g_iload X0 hx (hb hby d1_0) (v := j) rfl (q := 2) rfl ?_
  refine g_bipush X0 hx (hb hby d1_2) (n := (8 : Int32)) (by decide) (q := 4) rfl ?_
  refine g_icmp_ge X0 hx (hb hby d1_4) (by decide) (q := 20) (by decide) (q2 := 7) rfl (fun hb4 => ?_) (fun hb4 => ?_)
  · refine g_lloadN X0 hx (hb hby d1_20) (v := lo) rfl (q := 21) rfl ?_
    refine g_bipush X0 hx (hb hby d1_21) (n := (120 : Int32)) (by decide) (q := 23) rfl ?_
    refine g_bipush X0 hx (hb hby d1_23) (n := (8 : Int32)) (by decide) (q := 25) rfl ?_
    refine g_iload X0 hx (hb hby d1_25) (v := j) rfl (q := 27) rfl ?_
    refine g_imul X0 hx (hb hby d1_27) (z := ((8 : Int32) * j)) rfl (q := 28) rfl ?_
    refine g_isub X0 hx (hb hby d1_28) (z := ((120 : Int32) - ((8 : Int32) * j))) rfl (q := 29) rfl ?_
    refine g_lushr X0 hx (hb hby d1_29) (z := ((lo.toUInt64 >>> (((120 : Int32) - ((8 : Int32) * j)) &&& 0x3f).toInt64.toUInt64).toInt64)) rfl (q := 30) rfl ?_
    refine g_l2i X0 hx (hb hby d1_30) (z := (((lo.toUInt64 >>> (((120 : Int32) - ((8 : Int32) * j)) &&& 0x3f).toInt64.toUInt64).toInt64).toInt32)) rfl (q := 31) rfl ?_
    refine g_i2b X0 hx (hb hby d1_31) (z := ((((lo.toUInt64 >>> (((120 : Int32) - ((8 : Int32) * j)) &&& 0x3f).toInt64.toUInt64).toInt64).toInt32).toInt8.toInt32)) rfl (q := 32) rfl ?_
    exact g_retZ X0 hx hret hlk (hb hby d1_32) (by simp) (congrArg Value.int (own_i8 _)) ⟨(by rw [own_byte, if_neg hb4]), rfl, e0⟩ (Nat.le_of_ble_eq_true rfl) (Nat.le_of_ble_eq_true rfl)
  · refine g_lloadN X0 hx (hb hby d1_7) (v := hi) rfl (q := 8) rfl ?_
    refine g_bipush X0 hx (hb hby d1_8) (n := (56 : Int32)) (by decide) (q := 10) rfl ?_
    refine g_bipush X0 hx (hb hby d1_10) (n := (8 : Int32)) (by decide) (q := 12) rfl ?_
    refine g_iload X0 hx (hb hby d1_12) (v := j) rfl (q := 14) rfl ?_
    refine g_imul X0 hx (hb hby d1_14) (z := ((8 : Int32) * j)) rfl (q := 15) rfl ?_
    refine g_isub X0 hx (hb hby d1_15) (z := ((56 : Int32) - ((8 : Int32) * j))) rfl (q := 16) rfl ?_
    refine g_lushr X0 hx (hb hby d1_16) (z := ((hi.toUInt64 >>> (((56 : Int32) - ((8 : Int32) * j)) &&& 0x3f).toInt64.toUInt64).toInt64)) rfl (q := 17) rfl ?_
    refine g_l2i X0 hx (hb hby d1_17) (z := (((hi.toUInt64 >>> (((56 : Int32) - ((8 : Int32) * j)) &&& 0x3f).toInt64.toUInt64).toInt64).toInt32)) rfl (q := 18) rfl ?_
    refine g_i2b X0 hx (hb hby d1_18) (z := ((((hi.toUInt64 >>> (((56 : Int32) - ((8 : Int32) * j)) &&& 0x3f).toInt64.toUInt64).toInt64).toInt32).toInt8.toInt32)) rfl (q := 19) rfl ?_
    exact g_retZ X0 hx hret hlk (hb hby d1_19) (by simp) (congrArg Value.int (own_i8 _)) ⟨(by rw [own_byte, if_pos hb4]), rfl, e0⟩ (Nat.le_of_ble_eq_true rfl) (Nat.le_of_ble_eq_true rfl)
theorem d4_0 : decode method_5_code 0 = .ok (.aload_n 0, 1) := by decide +kernel
theorem d4_1 : decode method_5_code 1 = .ok (.getstatic 13, 3) := by decide +kernel
theorem d4_4 : decode method_5_code 4 = .ok (.if_acmp .ne 19, 3) := by decide +kernel
theorem d4_7 : decode method_5_code 7 = .ok (.iload_n 1, 1) := by decide +kernel
theorem d4_8 : decode method_5_code 8 = .ok (.bipush 8, 2) := by decide +kernel
theorem d4_10 : decode method_5_code 10 = .ok (.if_icmp .ge 8, 3) := by decide +kernel
theorem d4_13 : decode method_5_code 13 = .ok (.bipush 7, 2) := by decide +kernel
theorem d4_15 : decode method_5_code 15 = .ok (.iload_n 1, 1) := by decide +kernel
theorem d4_16 : decode method_5_code 16 = .ok (.isub, 1) := by decide +kernel
theorem d4_17 : decode method_5_code 17 = .ok (.ireturn, 1) := by decide +kernel
theorem d4_18 : decode method_5_code 18 = .ok (.bipush 23, 2) := by decide +kernel
theorem d4_20 : decode method_5_code 20 = .ok (.iload_n 1, 1) := by decide +kernel
theorem d4_21 : decode method_5_code 21 = .ok (.isub, 1) := by decide +kernel
theorem d4_22 : decode method_5_code 22 = .ok (.ireturn, 1) := by decide +kernel
theorem d4_23 : decode method_5_code 23 = .ok (.aload_n 0, 1) := by decide +kernel
theorem d4_24 : decode method_5_code 24 = .ok (.getstatic 16, 3) := by decide +kernel
theorem d4_27 : decode method_5_code 27 = .ok (.if_acmp .ne 36, 3) := by decide +kernel
theorem d4_30 : decode method_5_code 30 = .ok (.iload_n 1, 1) := by decide +kernel
theorem d4_31 : decode method_5_code 31 = .ok (.iconst 4, 1) := by decide +kernel
theorem d4_32 : decode method_5_code 32 = .ok (.if_icmp .ge 7, 3) := by decide +kernel
theorem d4_35 : decode method_5_code 35 = .ok (.iconst 3, 1) := by decide +kernel
theorem d4_36 : decode method_5_code 36 = .ok (.iload_n 1, 1) := by decide +kernel
theorem d4_37 : decode method_5_code 37 = .ok (.isub, 1) := by decide +kernel
theorem d4_38 : decode method_5_code 38 = .ok (.ireturn, 1) := by decide +kernel
theorem d4_39 : decode method_5_code 39 = .ok (.iload_n 1, 1) := by decide +kernel
theorem d4_40 : decode method_5_code 40 = .ok (.bipush 6, 2) := by decide +kernel
theorem d4_42 : decode method_5_code 42 = .ok (.if_icmp .ge 8, 3) := by decide +kernel
theorem d4_45 : decode method_5_code 45 = .ok (.bipush 9, 2) := by decide +kernel
theorem d4_47 : decode method_5_code 47 = .ok (.iload_n 1, 1) := by decide +kernel
theorem d4_48 : decode method_5_code 48 = .ok (.isub, 1) := by decide +kernel
theorem d4_49 : decode method_5_code 49 = .ok (.ireturn, 1) := by decide +kernel
theorem d4_50 : decode method_5_code 50 = .ok (.iload_n 1, 1) := by decide +kernel
theorem d4_51 : decode method_5_code 51 = .ok (.bipush 8, 2) := by decide +kernel
theorem d4_53 : decode method_5_code 53 = .ok (.if_icmp .ge 8, 3) := by decide +kernel
theorem d4_56 : decode method_5_code 56 = .ok (.bipush 13, 2) := by decide +kernel
theorem d4_58 : decode method_5_code 58 = .ok (.iload_n 1, 1) := by decide +kernel
theorem d4_59 : decode method_5_code 59 = .ok (.isub, 1) := by decide +kernel
theorem d4_60 : decode method_5_code 60 = .ok (.ireturn, 1) := by decide +kernel
theorem d4_61 : decode method_5_code 61 = .ok (.iload_n 1, 1) := by decide +kernel
theorem d4_62 : decode method_5_code 62 = .ok (.ireturn, 1) := by decide +kernel
theorem d4_63 : decode method_5_code 63 = .ok (.iload_n 1, 1) := by decide +kernel
theorem d4_64 : decode method_5_code 64 = .ok (.ireturn, 1) := by decide +kernel
set_option maxRecDepth 65536 in
set_option maxHeartbeats 40000000 in
theorem rmS (l : Launch) (Z : State) (a0 : Array Value) (hw : ∀ d ∈ tables_1, d.before a0 Z = true) (ar w1 w2 : Addr) (i : Int32) (h0 : Heap) (SJ : Sta Z h0 "com/example/tidemark/tidemark/UuidRepresentation" "JAVA_LEGACY" "Lcom/example/tidemark/tidemark/UuidRepresentation;" (.ref w1)) (SC : Sta Z h0 "com/example/tidemark/tidemark/UuidRepresentation" "CSHARP_LEGACY" "Lcom/example/tidemark/tidemark/UuidRepresentation;" (.ref w2)) :
    Con l Z h0 (⟨"com/example/tidemark/tidemark/UuidRepresentationReorderPinLaw", "src", "(Lcom/example/tidemark/tidemark/UuidRepresentation;I)I"⟩ : MethodName) method_5_code 2 (some .int) ({ frames := 0, cells := 0, slots := 0, locals := 0 } : Room) #[(.ref ar), (.int i)] (Pur (some (.int (own_src ar w1 w2 i))) h0) := by
  refine con_of (plainFor_of_name pn_0) (Ls := #[.val (.ref ar), .val (.int i)]) (fun m => by first | rfl | (simp [entryFrame, mkF, argsToLocals, Value.category]; done)) ?_
  intro p e s m below meth c s₁ hx hZ hby hml hret hlk hnm hown X0 e0
  refine g_aloadN X0 hx (hb hby d4_0) (v := (.ref ar)) rfl rfl (q := 1) rfl ?_
  refine g_getS X0 hx hZ hown (hw _ (List.mem_of_getElem? (i := 6) rfl)) Via.refl e0 SJ (hb hby d4_1) (q := 4) rfl fun T1 X1 e1 => ?_
  refine g_acmpNe X1 hx rfl rfl (hb hby d4_4) (by decide) (q := 23) (by decide) (q2 := 7) rfl (fun hb4 => ?_) (fun hb4 => ?_)
  · refine g_aloadN X1 hx (hb hby d4_23) (v := (.ref ar)) rfl rfl (q := 24) rfl ?_
    refine g_getS X1 hx hZ hown (hw _ (List.mem_of_getElem? (i := 8) rfl)) Via.refl e1 SC (hb hby d4_24) (q := 27) rfl fun T2 X2 e2 => ?_
    refine g_acmpNe X2 hx rfl rfl (hb hby d4_27) (by decide) (q := 63) (by decide) (q2 := 30) rfl (fun hb27 => ?_) (fun hb27 => ?_)
    · refine g_iloadN X2 hx (hb hby d4_63) (v := i) rfl (q := 64) rfl ?_
      exact g_retI X2 hx hret hlk (hb hby d4_64) ⟨(by rw [own_src, if_neg (fun q => hb4 (congrArg Value.ref q)), if_neg (fun q => hb27 (congrArg Value.ref q))]), rfl, e2⟩ (Nat.le_of_ble_eq_true rfl) (Nat.le_of_ble_eq_true rfl)
    · refine g_iloadN X2 hx (hb hby d4_30) (v := i) rfl (q := 31) rfl ?_
      refine g_iconst X2 hx (hb hby d4_31) (n := (4 : Int32)) (by decide) (q := 32) rfl ?_
      refine g_icmp_ge X2 hx (hb hby d4_32) (by decide) (q := 39) (by decide) (q2 := 35) rfl (fun hb32 => ?_) (fun hb32 => ?_)
      · refine g_iloadN X2 hx (hb hby d4_39) (v := i) rfl (q := 40) rfl ?_
        refine g_bipush X2 hx (hb hby d4_40) (n := (6 : Int32)) (by decide) (q := 42) rfl ?_
        refine g_icmp_ge X2 hx (hb hby d4_42) (by decide) (q := 50) (by decide) (q2 := 45) rfl (fun hb42 => ?_) (fun hb42 => ?_)
        · refine g_iloadN X2 hx (hb hby d4_50) (v := i) rfl (q := 51) rfl ?_
          refine g_bipush X2 hx (hb hby d4_51) (n := (8 : Int32)) (by decide) (q := 53) rfl ?_
          refine g_icmp_ge X2 hx (hb hby d4_53) (by decide) (q := 61) (by decide) (q2 := 56) rfl (fun hb53 => ?_) (fun hb53 => ?_)
          · refine g_iloadN X2 hx (hb hby d4_61) (v := i) rfl (q := 62) rfl ?_
            exact g_retI X2 hx hret hlk (hb hby d4_62) ⟨(by rw [own_src, if_neg (fun q => hb4 (congrArg Value.ref q)), if_pos (Value.ref.inj hb27), if_neg hb32, if_neg hb42, if_neg hb53]), rfl, e2⟩ (Nat.le_of_ble_eq_true rfl) (Nat.le_of_ble_eq_true rfl)
          · refine g_bipush X2 hx (hb hby d4_56) (n := (13 : Int32)) (by decide) (q := 58) rfl ?_
            refine g_iloadN X2 hx (hb hby d4_58) (v := i) rfl (q := 59) rfl ?_
            refine g_isub X2 hx (hb hby d4_59) (z := ((13 : Int32) - i)) rfl (q := 60) rfl ?_
            exact g_retI X2 hx hret hlk (hb hby d4_60) ⟨(by rw [own_src, if_neg (fun q => hb4 (congrArg Value.ref q)), if_pos (Value.ref.inj hb27), if_neg hb32, if_neg hb42, if_pos hb53]), rfl, e2⟩ (Nat.le_of_ble_eq_true rfl) (Nat.le_of_ble_eq_true rfl)
        · refine g_bipush X2 hx (hb hby d4_45) (n := (9 : Int32)) (by decide) (q := 47) rfl ?_
          refine g_iloadN X2 hx (hb hby d4_47) (v := i) rfl (q := 48) rfl ?_
          refine g_isub X2 hx (hb hby d4_48) (z := ((9 : Int32) - i)) rfl (q := 49) rfl ?_
          exact g_retI X2 hx hret hlk (hb hby d4_49) ⟨(by rw [own_src, if_neg (fun q => hb4 (congrArg Value.ref q)), if_pos (Value.ref.inj hb27), if_neg hb32, if_pos hb42]), rfl, e2⟩ (Nat.le_of_ble_eq_true rfl) (Nat.le_of_ble_eq_true rfl)
      · refine g_iconst X2 hx (hb hby d4_35) (n := (3 : Int32)) (by decide) (q := 36) rfl ?_
        refine g_iloadN X2 hx (hb hby d4_36) (v := i) rfl (q := 37) rfl ?_
        refine g_isub X2 hx (hb hby d4_37) (z := ((3 : Int32) - i)) rfl (q := 38) rfl ?_
        exact g_retI X2 hx hret hlk (hb hby d4_38) ⟨(by rw [own_src, if_neg (fun q => hb4 (congrArg Value.ref q)), if_pos (Value.ref.inj hb27), if_pos hb32]), rfl, e2⟩ (Nat.le_of_ble_eq_true rfl) (Nat.le_of_ble_eq_true rfl)
  · refine g_iloadN X1 hx (hb hby d4_7) (v := i) rfl (q := 8) rfl ?_
    refine g_bipush X1 hx (hb hby d4_8) (n := (8 : Int32)) (by decide) (q := 10) rfl ?_
    refine g_icmp_ge X1 hx (hb hby d4_10) (by decide) (q := 18) (by decide) (q2 := 13) rfl (fun hb10 => ?_) (fun hb10 => ?_)
    · refine g_bipush X1 hx (hb hby d4_18) (n := (23 : Int32)) (by decide) (q := 20) rfl ?_
      refine g_iloadN X1 hx (hb hby d4_20) (v := i) rfl (q := 21) rfl ?_
      refine g_isub X1 hx (hb hby d4_21) (z := ((23 : Int32) - i)) rfl (q := 22) rfl ?_
      exact g_retI X1 hx hret hlk (hb hby d4_22) ⟨(by rw [own_src, if_pos (Value.ref.inj hb4), if_neg hb10]), rfl, e1⟩ (Nat.le_of_ble_eq_true rfl) (Nat.le_of_ble_eq_true rfl)
    · refine g_bipush X1 hx (hb hby d4_13) (n := (7 : Int32)) (by decide) (q := 15) rfl ?_
      refine g_iloadN X1 hx (hb hby d4_15) (v := i) rfl (q := 16) rfl ?_
      refine g_isub X1 hx (hb hby d4_16) (z := ((7 : Int32) - i)) rfl (q := 17) rfl ?_
      exact g_retI X1 hx hret hlk (hb hby d4_17) ⟨(by rw [own_src, if_pos (Value.ref.inj hb4), if_pos hb10]), rfl, e1⟩ (Nat.le_of_ble_eq_true rfl) (Nat.le_of_ble_eq_true rfl)
theorem d3_0 : decode method_3_code 0 = .ok (.aload_n 2, 1) := by decide +kernel
theorem d3_1 : decode method_3_code 1 = .ok (.iload 7, 2) := by decide +kernel
theorem d3_3 : decode method_3_code 3 = .ok (.baload, 1) := by decide +kernel
theorem d3_4 : decode method_3_code 4 = .ok (.lload_n 3, 1) := by decide +kernel
theorem d3_5 : decode method_3_code 5 = .ok (.lload 5, 2) := by decide +kernel
theorem d3_7 : decode method_3_code 7 = .ok (.aload_n 0, 1) := by decide +kernel
theorem d3_8 : decode method_3_code 8 = .ok (.iload 7, 2) := by decide +kernel
theorem d3_10 : decode method_3_code 10 = .ok (.invokestatic 40, 3) := by decide +kernel
theorem d3_13 : decode method_3_code 13 = .ok (.invokestatic 26, 3) := by decide +kernel
theorem d3_16 : decode method_3_code 16 = .ok (.if_icmp .ne 22, 3) := by decide +kernel
theorem d3_19 : decode method_3_code 19 = .ok (.aload_n 1, 1) := by decide +kernel
theorem d3_20 : decode method_3_code 20 = .ok (.iload 7, 2) := by decide +kernel
theorem d3_22 : decode method_3_code 22 = .ok (.baload, 1) := by decide +kernel
theorem d3_23 : decode method_3_code 23 = .ok (.lload_n 3, 1) := by decide +kernel
theorem d3_24 : decode method_3_code 24 = .ok (.lload 5, 2) := by decide +kernel
theorem d3_26 : decode method_3_code 26 = .ok (.iload 7, 2) := by decide +kernel
theorem d3_28 : decode method_3_code 28 = .ok (.invokestatic 26, 3) := by decide +kernel
theorem d3_31 : decode method_3_code 31 = .ok (.if_icmp .ne 7, 3) := by decide +kernel
theorem d3_34 : decode method_3_code 34 = .ok (.iconst 1, 1) := by decide +kernel
theorem d3_35 : decode method_3_code 35 = .ok (.goto 4, 3) := by decide +kernel
theorem d3_39 : decode method_3_code 39 = .ok (.ireturn, 1) := by decide +kernel
set_option maxRecDepth 65536 in
set_option maxHeartbeats 40000000 in
theorem rmK (l : Launch) (Z : State) (a0 : Array Value) (hw : ∀ d ∈ tables_1, d.before a0 Z = true) (ar ab arr w1 w2 : Addr) (hi lo : Int64) (i : Int32) (fb fr : Nat → Value) (h0 : Heap) (SJ : Sta Z h0 "com/example/tidemark/tidemark/UuidRepresentation" "JAVA_LEGACY" "Lcom/example/tidemark/tidemark/UuidRepresentation;" (.ref w1)) (SC : Sta Z h0 "com/example/tidemark/tidemark/UuidRepresentation" "CSHARP_LEGACY" "Lcom/example/tidemark/tidemark/UuidRepresentation;" (.ref w2)) (VB : Af Z h0 ab .byte 16 fb) (VR : Af Z h0 arr .byte 16 fr) (hi0 : ¬ i < 0) (hi1 : i.toNatClampNeg < 16) (hB : fb i.toNatClampNeg = .int (own_byte hi lo i)) (hR : fr i.toNatClampNeg = .int (own_byte hi lo (own_src ar w1 w2 i))) :
    Con l Z h0 (⟨"com/example/tidemark/tidemark/UuidRepresentationReorderPinLaw", "ok", "(Lcom/example/tidemark/tidemark/UuidRepresentation;[B[BJJI)Z"⟩ : MethodName) method_3_code 8 (some .boolean) ({ frames := 1, cells := 0, slots := 0, locals := 26 } : Room) #[(.ref ar), (.ref ab), (.ref arr), (.long hi), (.long lo), (.int i)] (Pur (some (.int 1)) h0) := by
  refine con_of (plainFor_of_name pn_0) (Ls := #[.val (.ref ar), .val (.ref ab), .val (.ref arr), .val (.long hi), .second, .val (.long lo), .second, .val (.int i)]) (fun m => by first | rfl | (simp [entryFrame, mkF, argsToLocals, Value.category]; done)) ?_
  intro p e s m below meth c s₁ hx hZ hby hml hret hlk hnm hown X0 e0
  refine g_aloadN X0 hx (hb hby d3_0) (v := (.ref arr)) rfl rfl (q := 1) rfl ?_
  refine g_iload X0 hx (hb hby d3_1) (v := i) rfl (q := 3) rfl ?_
  refine g_baload X0 hx hZ e0 VR hi0 hi1 (v := (.int (own_byte hi lo (own_src ar w1 w2 i)))) hR (hb hby d3_3) (q := 4) rfl ?_
  refine g_lloadN X0 hx (hb hby d3_4) (v := hi) rfl (q := 5) rfl ?_
  refine g_lload X0 hx (hb hby d3_5) (v := lo) rfl (q := 7) rfl ?_
  refine g_aloadN X0 hx (hb hby d3_7) (v := (.ref ar)) rfl rfl (q := 8) rfl ?_
  refine g_iload X0 hx (hb hby d3_8) (v := i) rfl (q := 10) rfl ?_
  refine g_callS X0 hx hZ hown (hw _ (List.mem_of_getElem? (i := 30) rfl)) (hw _ (List.mem_of_getElem? (i := 31) rfl)) (hw _ (List.mem_of_getElem? (i := 18) rfl)) (hw _ (List.mem_of_getElem? (i := 32) rfl)) (by decide) e0 (rmS l Z a0 hw ar w1 w2 i h0 SJ SC) (by exact hml.symm) (argsL := [(.ref ar), (.int i)]) (rest := [(.long lo), (.long hi), (.int (own_byte hi lo (own_src ar w1 w2 i)))]) rfl rfl pd_0 rfl (Nat.le_of_ble_eq_true rfl) (Nat.le_of_ble_eq_true rfl) (Nat.le_of_ble_eq_true rfl) (Nat.le_of_ble_eq_true rfl) (hb hby d3_10) (q := 13) rfl (g_pure rfl rfl fun T3 X3 e3 => ?_)
  show Go p e below _ (T3.setTop (mkF m 13 #[.val (.ref ar), .val (.ref ab), .val (.ref arr), .val (.long hi), .second, .val (.long lo), .second, .val (.int i)] [(.int (own_src ar w1 w2 i)), (.long lo), (.long hi), (.int (own_byte hi lo (own_src ar w1 w2 i)))]))
  refine g_callS X3 hx hZ hown (hw _ (List.mem_of_getElem? (i := 16) rfl)) (hw _ (List.mem_of_getElem? (i := 17) rfl)) (hw _ (List.mem_of_getElem? (i := 18) rfl)) (hw _ (List.mem_of_getElem? (i := 19) rfl)) (by decide) e3 (rmB l Z a0 hw hi lo (own_src ar w1 w2 i) h0) (by exact hml.symm) (argsL := [(.long hi), (.long lo), (.int (own_src ar w1 w2 i))]) (rest := [(.int (own_byte hi lo (own_src ar w1 w2 i)))]) rfl rfl pd_1 rfl (Nat.le_of_ble_eq_true rfl) (Nat.le_of_ble_eq_true rfl) (Nat.le_of_ble_eq_true rfl) (Nat.le_of_ble_eq_true rfl) (hb hby d3_13) (q := 16) rfl (g_pure rfl rfl fun T4 X4 e4 => ?_)
  show Go p e below _ (T4.setTop (mkF m 16 #[.val (.ref ar), .val (.ref ab), .val (.ref arr), .val (.long hi), .second, .val (.long lo), .second, .val (.int i)] [(.int (own_byte hi lo (own_src ar w1 w2 i))), (.int (own_byte hi lo (own_src ar w1 w2 i)))]))
  refine g_icmp_ne X4 hx (hb hby d3_16) (by decide) (q := 38) (by decide) (q2 := 19) rfl (fun hb16 => absurd hb16 (not_not_intro rfl)) (fun hb16 => ?_)
  refine g_aloadN X4 hx (hb hby d3_19) (v := (.ref ab)) rfl rfl (q := 20) rfl ?_
  refine g_iload X4 hx (hb hby d3_20) (v := i) rfl (q := 22) rfl ?_
  refine g_baload X4 hx hZ e4 VB hi0 hi1 (v := (.int (own_byte hi lo i))) hB (hb hby d3_22) (q := 23) rfl ?_
  refine g_lloadN X4 hx (hb hby d3_23) (v := hi) rfl (q := 24) rfl ?_
  refine g_lload X4 hx (hb hby d3_24) (v := lo) rfl (q := 26) rfl ?_
  refine g_iload X4 hx (hb hby d3_26) (v := i) rfl (q := 28) rfl ?_
  refine g_callS X4 hx hZ hown (hw _ (List.mem_of_getElem? (i := 16) rfl)) (hw _ (List.mem_of_getElem? (i := 17) rfl)) (hw _ (List.mem_of_getElem? (i := 18) rfl)) (hw _ (List.mem_of_getElem? (i := 19) rfl)) (by decide) e4 (rmB l Z a0 hw hi lo i h0) (by exact hml.symm) (argsL := [(.long hi), (.long lo), (.int i)]) (rest := [(.int (own_byte hi lo i))]) rfl rfl pd_1 rfl (Nat.le_of_ble_eq_true rfl) (Nat.le_of_ble_eq_true rfl) (Nat.le_of_ble_eq_true rfl) (Nat.le_of_ble_eq_true rfl) (hb hby d3_28) (q := 31) rfl (g_pure rfl rfl fun T5 X5 e5 => ?_)
  show Go p e below _ (T5.setTop (mkF m 31 #[.val (.ref ar), .val (.ref ab), .val (.ref arr), .val (.long hi), .second, .val (.long lo), .second, .val (.int i)] [(.int (own_byte hi lo i)), (.int (own_byte hi lo i))]))
  refine g_icmp_ne X5 hx (hb hby d3_31) (by decide) (q := 38) (by decide) (q2 := 34) rfl (fun hb31 => absurd hb31 (not_not_intro rfl)) (fun hb31 => ?_)
  refine g_iconst X5 hx (hb hby d3_34) (n := (1 : Int32)) (by decide) (q := 35) rfl ?_
  refine g_goto X5 hx (hb hby d3_35) (by decide) (q := 39) (by decide) ?_
  exact g_retB X5 hx hret hlk (hb hby d3_39) (by decide) ⟨rfl, rfl, e5⟩ (Nat.le_of_ble_eq_true rfl) (Nat.le_of_ble_eq_true rfl)
theorem d2_0 : decode prog_25_method_6_code 0 = .ok (.bipush 16, 2) := by decide +kernel
theorem d2_2 : decode prog_25_method_6_code 2 = .ok (.newarray .byte, 2) := by decide +kernel
theorem d2_4 : decode prog_25_method_6_code 4 = .ok (.astore_n 2, 1) := by decide +kernel
theorem d2_5 : decode prog_25_method_6_code 5 = .ok (.iconst 0, 1) := by decide +kernel
theorem d2_6 : decode prog_25_method_6_code 6 = .ok (.istore_n 3, 1) := by decide +kernel
theorem d2_7 : decode prog_25_method_6_code 7 = .ok (.iload_n 3, 1) := by decide +kernel
theorem d2_8 : decode prog_25_method_6_code 8 = .ok (.bipush 16, 2) := by decide +kernel
theorem d2_10 : decode prog_25_method_6_code 10 = .ok (.if_icmp .ge 20, 3) := by decide +kernel
theorem d2_13 : decode prog_25_method_6_code 13 = .ok (.aload_n 2, 1) := by decide +kernel
theorem d2_14 : decode prog_25_method_6_code 14 = .ok (.iload_n 3, 1) := by decide +kernel
theorem d2_15 : decode prog_25_method_6_code 15 = .ok (.aload_n 1, 1) := by decide +kernel
theorem d2_16 : decode prog_25_method_6_code 16 = .ok (.aload_n 0, 1) := by decide +kernel
theorem d2_17 : decode prog_25_method_6_code 17 = .ok (.getfield 50, 3) := by decide +kernel
theorem d2_20 : decode prog_25_method_6_code 20 = .ok (.iload_n 3, 1) := by decide +kernel
theorem d2_21 : decode prog_25_method_6_code 21 = .ok (.iaload, 1) := by decide +kernel
theorem d2_22 : decode prog_25_method_6_code 22 = .ok (.baload, 1) := by decide +kernel
theorem d2_23 : decode prog_25_method_6_code 23 = .ok (.bastore, 1) := by decide +kernel
theorem d2_24 : decode prog_25_method_6_code 24 = .ok (.iinc 3 1, 3) := by decide +kernel
theorem d2_27 : decode prog_25_method_6_code 27 = .ok (.goto (-20), 3) := by decide +kernel
theorem d2_30 : decode prog_25_method_6_code 30 = .ok (.aload_n 2, 1) := by decide +kernel
theorem d2_31 : decode prog_25_method_6_code 31 = .ok (.areturn, 1) := by decide +kernel
set_option maxRecDepth 65536 in
set_option maxHeartbeats 40000000 in
theorem rmO (l : Launch) (Z : State) (a0 : Array Value) (hw : ∀ d ∈ tables_1, d.before a0 Z = true) (ar ab ao : Addr) (hi lo : Int64) (og : Nat → Int32) (hog : ∀ i, i < 16 → ¬ og i < 0 ∧ (og i).toNatClampNeg < 16) (h0 : Heap) (n0 : Nat) (Z0 : n0 ≤ h0.size) (EA : Exa Z h0 ar "com/example/tidemark/tidemark/UuidRepresentation") (FO : Fld Z h0 ar "com/example/tidemark/tidemark/UuidRepresentation" "order" "[I" (.ref ao)) (VO : Af Z h0 ao .int 16 (fun i => .int (og i))) (VB : Af Z h0 ab .byte 16 (fun i => .int (own_byte hi lo (Int32.ofNat i)))) :
    Con l Z h0 (⟨"com/example/tidemark/tidemark/UuidRepresentation", "reorder", "([B)[B"⟩ : MethodName) prog_25_method_6_code 4 (some (.array .byte)) ({ frames := 0, cells := 1, slots := 16, locals := 0 } : Room) #[(.ref ar), (.ref ab)] (fun v h L => ∃ b, v = some (.ref b) ∧ Fr n0 L ∧ Keep h0 h [] ∧ h0.size ≤ b ∧ Af Z h b .byte 16 (fun i => .int (own_byte hi lo (og i)))) := by
  refine con_of (plainFor_of_name pn_1) (Ls := #[.val (.ref ar), .val (.ref ab), .unset, .unset]) (fun m => by first | rfl | (simp [entryFrame, mkF, argsToLocals, Value.category]; done)) ?_
  intro p e s m below meth c s₁ hx hZ hby hml hret hlk hnm hown X0 e0
  refine g_bipush X0 hx (hb hby d2_0) (n := (16 : Int32)) (by decide) (q := 2) rfl ?_
  refine g_newP X0 hx hZ (hw _ (List.mem_of_getElem? (i := 15) rfl)) e0 (hb hby d2_2) (n := (16 : Int32)) (by decide) (cap := 16) (Nat.le_of_ble_eq_true rfl) (by decide) (Nat.le_of_ble_eq_true rfl) (Nat.le_of_ble_eq_true rfl) (q := 4) rfl fun T6 h6 c6 b g6 X6 e6 E6 A6 => ?_
  have ne_ao_b : ao ≠ b := Nat.ne_of_lt (Nat.lt_of_lt_of_le VO.lt (Nat.le_of_eq g6.symm))
  have ne_ab_b : ab ≠ b := Nat.ne_of_lt (Nat.lt_of_lt_of_le VB.lt (Nat.le_of_eq g6.symm))
  have ne_ar_b : ar ≠ b := Nat.ne_of_lt (Nat.lt_of_lt_of_le EA.lt (Nat.le_of_eq g6.symm))
  have ge_b : n0 ≤ b := Nat.le_trans Z0 (Nat.le_of_eq g6.symm)
  have sz_b : h0.size ≤ b := Nat.le_trans (Keep.refl h0 []).1 (Nat.le_of_eq g6.symm)
  have z_6 := Nat.le_trans Z0 E6.1
  have kp_6 := (Keep.refl h0 []).ext E6
  have f7 := (VO.ext E6)
  have f8 := (VB.ext E6)
  have f9 := (FO.ext E6)
  have f10 := (EA.ext E6)
  have V6 : Af Z h6 b .byte 16 (fun _ => (.int (0 : Int32))) := Af.fresh A6
  refine g_astoreN X6 hx (hb hby d2_4) rfl (L' := #[.val (.ref ar), .val (.ref ab), .val (.ref b), .unset]) rfl (q := 5) rfl ?_
  refine g_iconst X6 hx (hb hby d2_5) (n := (0 : Int32)) (by decide) (q := 6) rfl ?_
  refine g_istoreN X6 hx (hb hby d2_6) (L' := #[.val (.ref ar), .val (.ref ab), .val (.ref b), .val (.int (0 : Int32))]) rfl (q := 7) rfl ?_
  have loop : ∀ (n t : Nat), t + n = 16 → ∀ (T : State) (h : Heap) (locs : List Loc), Stand p l e ({ frames := 0, cells := 1, slots := 16, locals := 0 } : Room) s m #[(.ref ar), (.ref ab)] below meth c T locs 1 16 → T.heap = h → Fr n0 locs → Keep h0 h [] → Fld Z h ar "com/example/tidemark/tidemark/UuidRepresentation" "order" "[I" (.ref ao) → Af Z h ao .int 16 (fun i => .int (og i)) → Af Z h ab .byte 16 (fun i => .int (own_byte hi lo (Int32.ofNat i))) → Af Z h b .byte 16 (fun i => if i < t then .int (own_byte hi lo (og i)) else .int (0 : Int32)) → Go p e below (Wd s below (fun v h L => ∃ b, v = some (.ref b) ∧ Fr n0 L ∧ Keep h0 h [] ∧ h0.size ≤ b ∧ Af Z h b .byte 16 (fun i => .int (own_byte hi lo (og i)))) ({ frames := 0, cells := 1, slots := 16, locals := 0 } : Room).cells ({ frames := 0, cells := 1, slots := 16, locals := 0 } : Room).slots) (T.setTop (mkF m 7 #[.val (.ref ar), .val (.ref ab), .val (.ref b), .val (.int (Int32.ofNat t))] [])) := by
    intro n
    induction n with
    | zero =>
      intro t ht T h locs X e N' K' FO' VO' VB' V'
      refine g_iloadN X hx (hb hby d2_7) (v := (Int32.ofNat t)) rfl (q := 8) rfl ?_
      refine g_bipush X hx (hb hby d2_8) (n := (16 : Int32)) (by decide) (q := 10) rfl ?_
      refine g_icmp_ge X hx (hb hby d2_10) (by decide) (q := 30) (by decide) (q2 := 13) rfl (fun hb10 => ?_) (fun hb10 => absurd hb10 (fun q => absurd ((own_lt16 (by omega)).mp q) (by omega)))
      refine g_aloadN X hx (hb hby d2_30) (v := (.ref b)) rfl rfl (q := 31) rfl ?_
      exact g_retA X hx hret hlk (hb hby d2_31) rfl rfl rfl ⟨b, rfl, N', by rw [e]; exact K', sz_b, by rw [e]; exact V'.congr (fun i hi => if_pos (by omega))⟩ (Nat.le_of_ble_eq_true rfl) (Nat.le_of_ble_eq_true rfl)
    | succ n ih =>
      intro t ht T h locs X e N' K' FO' VO' VB' V'
      refine g_iloadN X hx (hb hby d2_7) (v := (Int32.ofNat t)) rfl (q := 8) rfl ?_
      refine g_bipush X hx (hb hby d2_8) (n := (16 : Int32)) (by decide) (q := 10) rfl ?_
      refine g_icmp_ge X hx (hb hby d2_10) (by decide) (q := 30) (by decide) (q2 := 13) rfl (fun hb10 => absurd hb10 (fun q => q ((own_lt16 (by omega)).mpr (by omega)))) (fun hb10 => ?_)
      refine g_aloadN X hx (hb hby d2_13) (v := (.ref b)) rfl rfl (q := 14) rfl ?_
      refine g_iloadN X hx (hb hby d2_14) (v := (Int32.ofNat t)) rfl (q := 15) rfl ?_
      refine g_aloadN X hx (hb hby d2_15) (v := (.ref ab)) rfl rfl (q := 16) rfl ?_
      refine g_aloadN X hx (hb hby d2_16) (v := (.ref ar)) rfl rfl (q := 17) rfl ?_
      refine g_getF X hx hZ hown (hw _ (List.mem_of_getElem? (i := 25) rfl)) Via.refl e FO' (hb hby d2_17) (q := 20) rfl fun T11 X11 e11 => ?_
      refine g_iloadN X11 hx (hb hby d2_20) (v := (Int32.ofNat t)) rfl (q := 21) rfl ?_
      refine g_iaload X11 hx hZ e11 VO' (own_nn (by omega)) (by rw [own_tn (by omega)]; omega) (v := (.int (og t))) (by rw [own_tn (by omega)]) (hb hby d2_21) (q := 22) rfl ?_
      refine g_baload X11 hx hZ e11 VB' (hog t (by omega)).1 (hog t (by omega)).2 (v := (.int (own_byte hi lo (og t)))) (by rw [own_back (hog t (by omega)).1]) (hb hby d2_22) (q := 23) rfl ?_
      refine g_bastore X11 hx hZ e11 V' (own_nn (by omega)) (by rw [own_tn (by omega)]; omega) (y := own_byte hi lo (og t)) (own_byte_nar _ _ _) (hb hby d2_23) (q := 24) rfl fun T12 h12 X12 e12 W12 U12 => ?_
      have N12 := Fr.snoc X12 N' ge_b
      have kp_12 := K'.wr W12 (Or.inr sz_b)
      have f13 := (VO'.other W12 ne_ao_b)
      have f14 := (VB'.other W12 ne_ab_b)
      have f15 := (FO'.other W12 (Or.inl ne_ar_b))
      have V12 : Af Z h12 b .byte 16 (fun i => if i < t + 1 then .int (own_byte hi lo (og i)) else .int (0 : Int32)) := by
        rw [own_tn (by omega)] at U12
        exact own_fill (F := fun i => .int (own_byte hi lo (og i))) t U12
      refine g_iinc X12 hx (hb hby d2_24) (x := Int32.ofNat t) rfl (z := Int32.ofNat (t + 1)) (own_succ t) (L' := #[.val (.ref ar), .val (.ref ab), .val (.ref b), .val (.int (Int32.ofNat (t + 1)))]) rfl (q := 27) rfl ?_
      refine g_goto X12 hx (hb hby d2_27) (by decide) (q := 7) (by decide) ?_
      exact ih (t + 1) (by omega) _ _ _ X12 e12 N12 kp_12 f15 f13 f14 V12
  exact loop 16 0 rfl _ _ _ X6 e6 (Fr.nil n0) kp_6 f9 f7 f8 (V6.congr (fun i hi => rfl))
set_option maxRecDepth 65536 in
set_option maxHeartbeats 40000000 in
theorem rm0 (l : Launch) (Z : State) (a0 : Array Value) (hw : ∀ d ∈ tables_1, d.before a0 Z = true) (hi lo : Int64) (k : Int32) (w0 w1 w2 w3 w4 o0 o1 o2 o3 o4 : Addr) (h0 : Heap) (n0 : Nat) (Z0 : n0 ≤ h0.size) (S0 : Sta Z h0 "com/example/tidemark/tidemark/UuidRepresentation" "STANDARD" "Lcom/example/tidemark/tidemark/UuidRepresentation;" (.ref w0)) (E0 : Exa Z h0 w0 "com/example/tidemark/tidemark/UuidRepresentation") (F0 : Fld Z h0 w0 "com/example/tidemark/tidemark/UuidRepresentation" "order" "[I" (.ref o0)) (V0 : Af Z h0 o0 .int 16 (fun i => .int (own_id i))) (S1 : Sta Z h0 "com/example/tidemark/tidemark/UuidRepresentation" "JAVA_LEGACY" "Lcom/example/tidemark/tidemark/UuidRepresentation;" (.ref w1)) (E1 : Exa Z h0 w1 "com/example/tidemark/tidemark/UuidRepresentation") (F1 : Fld Z h0 w1 "com/example/tidemark/tidemark/UuidRepresentation" "order" "[I" (.ref o1)) (V1 : Af Z h0 o1 .int 16 (fun i => .int (own_java i))) (S2 : Sta Z h0 "com/example/tidemark/tidemark/UuidRepresentation" "CSHARP_LEGACY" "Lcom/example/tidemark/tidemark/UuidRepresentation;" (.ref w2)) (E2 : Exa Z h0 w2 "com/example/tidemark/tidemark/UuidRepresentation") (F2 : Fld Z h0 w2 "com/example/tidemark/tidemark/UuidRepresentation" "order" "[I" (.ref o2)) (V2 : Af Z h0 o2 .int 16 (fun i => .int (own_cs i))) (S3 : Sta Z h0 "com/example/tidemark/tidemark/UuidRepresentation" "PYTHON_LEGACY" "Lcom/example/tidemark/tidemark/UuidRepresentation;" (.ref w3)) (E3 : Exa Z h0 w3 "com/example/tidemark/tidemark/UuidRepresentation") (F3 : Fld Z h0 w3 "com/example/tidemark/tidemark/UuidRepresentation" "order" "[I" (.ref o3)) (V3 : Af Z h0 o3 .int 16 (fun i => .int (own_id i))) (S4 : Sta Z h0 "com/example/tidemark/tidemark/UuidRepresentation" "UNSPECIFIED" "Lcom/example/tidemark/tidemark/UuidRepresentation;" (.ref w4)) (E4 : Exa Z h0 w4 "com/example/tidemark/tidemark/UuidRepresentation") (F4 : Fld Z h0 w4 "com/example/tidemark/tidemark/UuidRepresentation" "order" "[I" (.ref o4)) (V4 : Af Z h0 o4 .int 16 (fun i => .int (own_id i))) (n01 : ¬ w0 = w1) (n02 : ¬ w0 = w2) (n21 : ¬ w2 = w1) (n31 : ¬ w3 = w1) (n32 : ¬ w3 = w2) (n41 : ¬ w4 = w1) (n42 : ¬ w4 = w2) :
    Con l Z h0 x code maxLocals ret room_1 #[(.long hi), (.long lo), (.int k)] (fun v h L => v = some (.int 1) ∧ Fr n0 L) := by
  refine con_of (plainFor_of_name pn_0) (Ls := #[.val (.long hi), .second, .val (.long lo), .second, .val (.int k), .unset, .unset, .unset, .unset]) (fun m => by first | rfl | (simp [entryFrame, mkF, argsToLocals, Value.category, maxLocals]; done)) ?_
  intro p e s m below meth c s₁ hx hZ hby hml hret hlk hnm hown X0 e0
  refine g_iconst X0 hx (hb hby at_0) (n := (5 : Int32)) (by decide) (q := 1) rfl ?_
  refine g_newR X0 hx hZ hown (hw _ (List.mem_of_getElem? (i := 0) rfl)) (hw _ (List.mem_of_getElem? (i := 1) rfl)) e0 (hb hby at_1) (z := (5 : Int32)) (by decide) (cap := 5) (Nat.le_of_ble_eq_true rfl) (by decide) (Nat.le_of_ble_eq_true rfl) (Nat.le_of_ble_eq_true rfl) (q := 4) rfl fun T16 h16 c16 rs g16 X16 e16 E16 A16 O16 => ?_
  have ne_w0_rs : w0 ≠ rs := Nat.ne_of_lt (Nat.lt_of_lt_of_le E0.lt (Nat.le_of_eq g16.symm))
  have ne_o0_rs : o0 ≠ rs := Nat.ne_of_lt (Nat.lt_of_lt_of_le V0.lt (Nat.le_of_eq g16.symm))
  have ne_w1_rs : w1 ≠ rs := Nat.ne_of_lt (Nat.lt_of_lt_of_le E1.lt (Nat.le_of_eq g16.symm))
  have ne_o1_rs : o1 ≠ rs := Nat.ne_of_lt (Nat.lt_of_lt_of_le V1.lt (Nat.le_of_eq g16.symm))
  have ne_w2_rs : w2 ≠ rs := Nat.ne_of_lt (Nat.lt_of_lt_of_le E2.lt (Nat.le_of_eq g16.symm))
  have ne_o2_rs : o2 ≠ rs := Nat.ne_of_lt (Nat.lt_of_lt_of_le V2.lt (Nat.le_of_eq g16.symm))
  have ne_w3_rs : w3 ≠ rs := Nat.ne_of_lt (Nat.lt_of_lt_of_le E3.lt (Nat.le_of_eq g16.symm))
  have ne_o3_rs : o3 ≠ rs := Nat.ne_of_lt (Nat.lt_of_lt_of_le V3.lt (Nat.le_of_eq g16.symm))
  have ne_w4_rs : w4 ≠ rs := Nat.ne_of_lt (Nat.lt_of_lt_of_le E4.lt (Nat.le_of_eq g16.symm))
  have ne_o4_rs : o4 ≠ rs := Nat.ne_of_lt (Nat.lt_of_lt_of_le V4.lt (Nat.le_of_eq g16.symm))
  have ge_rs : n0 ≤ rs := Nat.le_trans Z0 (Nat.le_of_eq g16.symm)
  have z_16 := Nat.le_trans Z0 E16.1
  have f17 := (S0.ext E16)
  have f18 := (E0.ext E16)
  have f19 := (F0.ext E16)
  have f20 := (V0.ext E16)
  have f21 := (S1.ext E16)
  have f22 := (E1.ext E16)
  have f23 := (F1.ext E16)
  have f24 := (V1.ext E16)
  have f25 := (S2.ext E16)
  have f26 := (E2.ext E16)
  have f27 := (F2.ext E16)
  have f28 := (V2.ext E16)
  have f29 := (S3.ext E16)
  have f30 := (E3.ext E16)
  have f31 := (F3.ext E16)
  have f32 := (V3.ext E16)
  have f33 := (S4.ext E16)
  have f34 := (E4.ext E16)
  have f35 := (F4.ext E16)
  have f36 := (V4.ext E16)
  have V16 : Af Z h16 rs (.object "com/example/tidemark/tidemark/UuidRepresentation") 5 (fun _ => .null) := Af.fresh A16
  have Q16 := Ov.fresh A16 O16
  refine g_dup X16 hx (hb hby at_4) rfl (q := 5) rfl ?_
  refine g_iconst X16 hx (hb hby at_5) (n := (0 : Int32)) (by decide) (q := 6) rfl ?_
  refine g_getS X16 hx hZ hown (hw _ (List.mem_of_getElem? (i := 2) rfl)) Via.refl e16 f17 (hb hby at_6) (q := 9) rfl fun T37 X37 e37 => ?_
  refine g_aastore X37 hx hZ e37 V16 rfl (by decide) (by decide) (Q16.sto (Ins.self f18)) (hb hby at_9) (q := 10) rfl fun T38 h38 X38 e38 W38 U38 => ?_
  have N38 := Fr.snoc X38 (Fr.nil n0) ge_rs
  have z_38 := Nat.le_trans z_16 (Keep.of_wr W38).1
  have f39 := (f17.wr W38)
  have f40 := (f18.wr W38)
  have f41 := (f19.other W38 (Or.inl ne_w0_rs))
  have f42 := (f20.other W38 ne_o0_rs)
  have f43 := (f21.wr W38)
  have f44 := (f22.wr W38)
  have f45 := (f23.other W38 (Or.inl ne_w1_rs))
  have f46 := (f24.other W38 ne_o1_rs)
  have f47 := (f25.wr W38)
  have f48 := (f26.wr W38)
  have f49 := (f27.other W38 (Or.inl ne_w2_rs))
  have f50 := (f28.other W38 ne_o2_rs)
  have f51 := (f29.wr W38)
  have f52 := (f30.wr W38)
  have f53 := (f31.other W38 (Or.inl ne_w3_rs))
  have f54 := (f32.other W38 ne_o3_rs)
  have f55 := (f33.wr W38)
  have f56 := (f34.wr W38)
  have f57 := (f35.other W38 (Or.inl ne_w4_rs))
  have f58 := (f36.other W38 ne_o4_rs)
  have f59 := (Q16.wr W38)
  refine g_dup X38 hx (hb hby at_10) rfl (q := 11) rfl ?_
  refine g_iconst X38 hx (hb hby at_11) (n := (1 : Int32)) (by decide) (q := 12) rfl ?_
  refine g_getS X38 hx hZ hown (hw _ (List.mem_of_getElem? (i := 6) rfl)) Via.refl e38 f43 (hb hby at_12) (q := 15) rfl fun T60 X60 e60 => ?_
  refine g_aastore X60 hx hZ e60 U38 rfl (by decide) (by decide) (f59.sto (Ins.self f44)) (hb hby at_15) (q := 16) rfl fun T61 h61 X61 e61 W61 U61 => ?_
  have N61 := Fr.snoc X61 N38 ge_rs
  have z_61 := Nat.le_trans z_38 (Keep.of_wr W61).1
  have f62 := (f39.wr W61)
  have f63 := (f40.wr W61)
  have f64 := (f41.other W61 (Or.inl ne_w0_rs))
  have f65 := (f42.other W61 ne_o0_rs)
  have f66 := (f43.wr W61)
  have f67 := (f44.wr W61)
  have f68 := (f45.other W61 (Or.inl ne_w1_rs))
  have f69 := (f46.other W61 ne_o1_rs)
  have f70 := (f47.wr W61)
  have f71 := (f48.wr W61)
  have f72 := (f49.other W61 (Or.inl ne_w2_rs))
  have f73 := (f50.other W61 ne_o2_rs)
  have f74 := (f51.wr W61)
  have f75 := (f52.wr W61)
  have f76 := (f53.other W61 (Or.inl ne_w3_rs))
  have f77 := (f54.other W61 ne_o3_rs)
  have f78 := (f55.wr W61)
  have f79 := (f56.wr W61)
  have f80 := (f57.other W61 (Or.inl ne_w4_rs))
  have f81 := (f58.other W61 ne_o4_rs)
  have f82 := (f59.wr W61)
  refine g_dup X61 hx (hb hby at_16) rfl (q := 17) rfl ?_
  refine g_iconst X61 hx (hb hby at_17) (n := (2 : Int32)) (by decide) (q := 18) rfl ?_
  refine g_getS X61 hx hZ hown (hw _ (List.mem_of_getElem? (i := 8) rfl)) Via.refl e61 f70 (hb hby at_18) (q := 21) rfl fun T83 X83 e83 => ?_
  refine g_aastore X83 hx hZ e83 U61 rfl (by decide) (by decide) (f82.sto (Ins.self f71)) (hb hby at_21) (q := 22) rfl fun T84 h84 X84 e84 W84 U84 => ?_
  have N84 := Fr.snoc X84 N61 ge_rs
  have z_84 := Nat.le_trans z_61 (Keep.of_wr W84).1
  have f85 := (f62.wr W84)
  have f86 := (f63.wr W84)
  have f87 := (f64.other W84 (Or.inl ne_w0_rs))
  have f88 := (f65.other W84 ne_o0_rs)
  have f89 := (f66.wr W84)
  have f90 := (f67.wr W84)
  have f91 := (f68.other W84 (Or.inl ne_w1_rs))
  have f92 := (f69.other W84 ne_o1_rs)
  have f93 := (f70.wr W84)
  have f94 := (f71.wr W84)
  have f95 := (f72.other W84 (Or.inl ne_w2_rs))
  have f96 := (f73.other W84 ne_o2_rs)
  have f97 := (f74.wr W84)
  have f98 := (f75.wr W84)
  have f99 := (f76.other W84 (Or.inl ne_w3_rs))
  have f100 := (f77.other W84 ne_o3_rs)
  have f101 := (f78.wr W84)
  have f102 := (f79.wr W84)
  have f103 := (f80.other W84 (Or.inl ne_w4_rs))
  have f104 := (f81.other W84 ne_o4_rs)
  have f105 := (f82.wr W84)
  refine g_dup X84 hx (hb hby at_22) rfl (q := 23) rfl ?_
  refine g_iconst X84 hx (hb hby at_23) (n := (3 : Int32)) (by decide) (q := 24) rfl ?_
  refine g_getS X84 hx hZ hown (hw _ (List.mem_of_getElem? (i := 10) rfl)) Via.refl e84 f97 (hb hby at_24) (q := 27) rfl fun T106 X106 e106 => ?_
  refine g_aastore X106 hx hZ e106 U84 rfl (by decide) (by decide) (f105.sto (Ins.self f98)) (hb hby at_27) (q := 28) rfl fun T107 h107 X107 e107 W107 U107 => ?_
  have N107 := Fr.snoc X107 N84 ge_rs
  have z_107 := Nat.le_trans z_84 (Keep.of_wr W107).1
  have f108 := (f85.wr W107)
  have f109 := (f86.wr W107)
  have f110 := (f87.other W107 (Or.inl ne_w0_rs))
  have f111 := (f88.other W107 ne_o0_rs)
  have f112 := (f89.wr W107)
  have f113 := (f90.wr W107)
  have f114 := (f91.other W107 (Or.inl ne_w1_rs))
  have f115 := (f92.other W107 ne_o1_rs)
  have f116 := (f93.wr W107)
  have f117 := (f94.wr W107)
  have f118 := (f95.other W107 (Or.inl ne_w2_rs))
  have f119 := (f96.other W107 ne_o2_rs)
  have f120 := (f97.wr W107)
  have f121 := (f98.wr W107)
  have f122 := (f99.other W107 (Or.inl ne_w3_rs))
  have f123 := (f100.other W107 ne_o3_rs)
  have f124 := (f101.wr W107)
  have f125 := (f102.wr W107)
  have f126 := (f103.other W107 (Or.inl ne_w4_rs))
  have f127 := (f104.other W107 ne_o4_rs)
  have f128 := (f105.wr W107)
  refine g_dup X107 hx (hb hby at_28) rfl (q := 29) rfl ?_
  refine g_iconst X107 hx (hb hby at_29) (n := (4 : Int32)) (by decide) (q := 30) rfl ?_
  refine g_getS X107 hx hZ hown (hw _ (List.mem_of_getElem? (i := 12) rfl)) Via.refl e107 f124 (hb hby at_30) (q := 33) rfl fun T129 X129 e129 => ?_
  refine g_aastore X129 hx hZ e129 U107 rfl (by decide) (by decide) (f128.sto (Ins.self f125)) (hb hby at_33) (q := 34) rfl fun T130 h130 X130 e130 W130 U130 => ?_
  have N130 := Fr.snoc X130 N107 ge_rs
  have z_130 := Nat.le_trans z_107 (Keep.of_wr W130).1
  have f131 := (f108.wr W130)
  have f132 := (f109.wr W130)
  have f133 := (f110.other W130 (Or.inl ne_w0_rs))
  have f134 := (f111.other W130 ne_o0_rs)
  have f135 := (f112.wr W130)
  have f136 := (f113.wr W130)
  have f137 := (f114.other W130 (Or.inl ne_w1_rs))
  have f138 := (f115.other W130 ne_o1_rs)
  have f139 := (f116.wr W130)
  have f140 := (f117.wr W130)
  have f141 := (f118.other W130 (Or.inl ne_w2_rs))
  have f142 := (f119.other W130 ne_o2_rs)
  have f143 := (f120.wr W130)
  have f144 := (f121.wr W130)
  have f145 := (f122.other W130 (Or.inl ne_w3_rs))
  have f146 := (f123.other W130 ne_o3_rs)
  have f147 := (f124.wr W130)
  have f148 := (f125.wr W130)
  have f149 := (f126.other W130 (Or.inl ne_w4_rs))
  have f150 := (f127.other W130 ne_o4_rs)
  have f151 := (f128.wr W130)
  refine g_astore X130 hx (hb hby at_34) rfl (L' := #[.val (.long hi), .second, .val (.long lo), .second, .val (.int k), .val (.ref rs), .unset, .unset, .unset]) rfl (q := 36) rfl ?_
  refine g_aload X130 hx (hb hby at_36) (v := (.ref rs)) rfl rfl (q := 38) rfl ?_
  refine g_iload X130 hx (hb hby at_38) (v := k) rfl (q := 40) rfl ?_
  refine g_ldcI X130 hx hZ hown (hw _ (List.mem_of_getElem? (i := 14) rfl)) (hb hby at_40) (q := 42) rfl ?_
  refine g_iand X130 hx (hb hby at_42) (z := (k &&& (2147483647 : Int32))) rfl (q := 43) rfl ?_
  refine g_iconst X130 hx (hb hby at_43) (n := (5 : Int32)) (by decide) (q := 44) rfl ?_
  refine g_irem X130 hx (hb hby at_44) (by decide) (z := ((k &&& (2147483647 : Int32)) % (5 : Int32))) rfl (q := 45) rfl ?_
  have J46 : ∀ (ar ao : Addr) (og : Nat → Int32) (hog : ∀ i, i < 16 → ¬ og i < 0 ∧ (og i).toNatClampNeg < 16) (hsrc : ∀ i, i < 16 → own_src ar w1 w2 (Int32.ofNat i) = og i) (EA : Exa Z h130 ar "com/example/tidemark/tidemark/UuidRepresentation") (FA : Fld Z h130 ar "com/example/tidemark/tidemark/UuidRepresentation" "order" "[I" (.ref ao)) (VA : Af Z h130 ao .int 16 (fun i => .int (og i))), Go p e below (Wd s below (fun v h L => v = some (.int 1) ∧ Fr n0 L) room_1.cells room_1.slots) (T130.setTop (mkF m 46 #[.val (.long hi), .second, .val (.long lo), .second, .val (.int k), .val (.ref rs), .unset, .unset, .unset] [(.ref ar)])) := by
    intro ar ao og hog hsrc EA FA VA
    have NA := N130
    have ZA := z_130
    refine g_astore X130 hx (hb hby at_46) rfl (L' := #[.val (.long hi), .second, .val (.long lo), .second, .val (.int k), .val (.ref rs), .val (.ref ar), .unset, .unset]) rfl (q := 48) rfl ?_
    refine g_bipush X130 hx (hb hby at_48) (n := (16 : Int32)) (by decide) (q := 50) rfl ?_
    refine g_newP X130 hx hZ (hw _ (List.mem_of_getElem? (i := 15) rfl)) e130 (hb hby at_50) (n := (16 : Int32)) (by decide) (cap := 16) (Nat.le_of_ble_eq_true rfl) (by decide) (Nat.le_of_ble_eq_true rfl) (Nat.le_of_ble_eq_true rfl) (q := 52) rfl fun T152 h152 c152 b g152 X152 e152 E152 A152 => ?_
    have ne_ar_b : ar ≠ b := Nat.ne_of_lt (Nat.lt_of_lt_of_le EA.lt (Nat.le_of_eq g152.symm))
    have ne_ao_b : ao ≠ b := Nat.ne_of_lt (Nat.lt_of_lt_of_le VA.lt (Nat.le_of_eq g152.symm))
    have ge_b : n0 ≤ b := Nat.le_trans ZA (Nat.le_of_eq g152.symm)
    have z_152 := Nat.le_trans ZA E152.1
    have f153 := (f131.ext E152)
    have f154 := (f135.ext E152)
    have f155 := (f139.ext E152)
    have f156 := (f143.ext E152)
    have f157 := (f147.ext E152)
    have f158 := (EA.ext E152)
    have f159 := (FA.ext E152)
    have f160 := (VA.ext E152)
    have V152 : Af Z h152 b .byte 16 (fun _ => (.int (0 : Int32))) := Af.fresh A152
    refine g_dup X152 hx (hb hby at_52) rfl (q := 53) rfl ?_
    refine g_iconst X152 hx (hb hby at_53) (n := (0 : Int32)) (by decide) (q := 54) rfl ?_
    refine g_lloadN X152 hx (hb hby at_54) (v := hi) rfl (q := 55) rfl ?_
    refine g_lloadN X152 hx (hb hby at_55) (v := lo) rfl (q := 56) rfl ?_
    refine g_iconst X152 hx (hb hby at_56) (n := (0 : Int32)) (by decide) (q := 57) rfl ?_
    refine g_callS X152 hx hZ hown (hw _ (List.mem_of_getElem? (i := 16) rfl)) (hw _ (List.mem_of_getElem? (i := 17) rfl)) (hw _ (List.mem_of_getElem? (i := 18) rfl)) (hw _ (List.mem_of_getElem? (i := 19) rfl)) (by decide) e152 (rmB l Z a0 hw hi lo (0 : Int32) h152) (by exact hml.symm) (argsL := [(.long hi), (.long lo), (.int (0 : Int32))]) (rest := [(.int (0 : Int32)), (.ref b), (.ref b)]) rfl rfl pd_1 rfl (Nat.le_of_ble_eq_true rfl) (Nat.le_of_ble_eq_true rfl) (Nat.le_of_ble_eq_true rfl) (Nat.le_of_ble_eq_true rfl) (hb hby at_57) (q := 60) rfl (g_pure rfl rfl fun T161 X161 e161 => ?_)
    show Go p e below _ (T161.setTop (mkF m 60 #[.val (.long hi), .second, .val (.long lo), .second, .val (.int k), .val (.ref rs), .val (.ref ar), .unset, .unset] [(.int (own_byte hi lo (0 : Int32))), (.int (0 : Int32)), (.ref b), (.ref b)]))
    refine g_bastore X161 hx hZ e161 V152 (by decide) (by decide) (y := own_byte hi lo (0 : Int32)) (own_byte_nar _ _ _) (hb hby at_60) (q := 61) rfl fun T162 h162 X162 e162 W162 U162 => ?_
    have N162 := Fr.snoc X162 NA ge_b
    have z_162 := Nat.le_trans z_152 (Keep.of_wr W162).1
    have f163 := (f153.wr W162)
    have f164 := (f154.wr W162)
    have f165 := (f155.wr W162)
    have f166 := (f156.wr W162)
    have f167 := (f157.wr W162)
    have f168 := (f158.wr W162)
    have f169 := (f159.other W162 (Or.inl ne_ar_b))
    have f170 := (f160.other W162 ne_ao_b)
    have V162 : Af Z h162 b .byte 16 (fun i => if i < 1 then .int (own_byte hi lo (Int32.ofNat i)) else .int (0 : Int32)) := own_fill (F := fun i => .int (own_byte hi lo (Int32.ofNat i))) 0 (U162.congr (fun i hi => by by_cases q : i = 0 <;> simp [q] <;> rfl))
    refine g_dup X162 hx (hb hby at_61) rfl (q := 62) rfl ?_
    refine g_iconst X162 hx (hb hby at_62) (n := (1 : Int32)) (by decide) (q := 63) rfl ?_
    refine g_lloadN X162 hx (hb hby at_63) (v := hi) rfl (q := 64) rfl ?_
    refine g_lloadN X162 hx (hb hby at_64) (v := lo) rfl (q := 65) rfl ?_
    refine g_iconst X162 hx (hb hby at_65) (n := (1 : Int32)) (by decide) (q := 66) rfl ?_
    refine g_callS X162 hx hZ hown (hw _ (List.mem_of_getElem? (i := 16) rfl)) (hw _ (List.mem_of_getElem? (i := 17) rfl)) (hw _ (List.mem_of_getElem? (i := 18) rfl)) (hw _ (List.mem_of_getElem? (i := 19) rfl)) (by decide) e162 (rmB l Z a0 hw hi lo (1 : Int32) h162) (by exact hml.symm) (argsL := [(.long hi), (.long lo), (.int (1 : Int32))]) (rest := [(.int (1 : Int32)), (.ref b), (.ref b)]) rfl rfl pd_1 rfl (Nat.le_of_ble_eq_true rfl) (Nat.le_of_ble_eq_true rfl) (Nat.le_of_ble_eq_true rfl) (Nat.le_of_ble_eq_true rfl) (hb hby at_66) (q := 69) rfl (g_pure rfl rfl fun T171 X171 e171 => ?_)
    show Go p e below _ (T171.setTop (mkF m 69 #[.val (.long hi), .second, .val (.long lo), .second, .val (.int k), .val (.ref rs), .val (.ref ar), .unset, .unset] [(.int (own_byte hi lo (1 : Int32))), (.int (1 : Int32)), (.ref b), (.ref b)]))
    refine g_bastore X171 hx hZ e171 V162 (by decide) (by decide) (y := own_byte hi lo (1 : Int32)) (own_byte_nar _ _ _) (hb hby at_69) (q := 70) rfl fun T172 h172 X172 e172 W172 U172 => ?_
    have N172 := Fr.snoc X172 N162 ge_b
    have z_172 := Nat.le_trans z_162 (Keep.of_wr W172).1
    have f173 := (f163.wr W172)
    have f174 := (f164.wr W172)
    have f175 := (f165.wr W172)
    have f176 := (f166.wr W172)
    have f177 := (f167.wr W172)
    have f178 := (f168.wr W172)
    have f179 := (f169.other W172 (Or.inl ne_ar_b))
    have f180 := (f170.other W172 ne_ao_b)
    have V172 : Af Z h172 b .byte 16 (fun i => if i < 2 then .int (own_byte hi lo (Int32.ofNat i)) else .int (0 : Int32)) := own_fill (F := fun i => .int (own_byte hi lo (Int32.ofNat i))) 1 U172
    refine g_dup X172 hx (hb hby at_70) rfl (q := 71) rfl ?_
    refine g_iconst X172 hx (hb hby at_71) (n := (2 : Int32)) (by decide) (q := 72) rfl ?_
    refine g_lloadN X172 hx (hb hby at_72) (v := hi) rfl (q := 73) rfl ?_
    refine g_lloadN X172 hx (hb hby at_73) (v := lo) rfl (q := 74) rfl ?_
    refine g_iconst X172 hx (hb hby at_74) (n := (2 : Int32)) (by decide) (q := 75) rfl ?_
    refine g_callS X172 hx hZ hown (hw _ (List.mem_of_getElem? (i := 16) rfl)) (hw _ (List.mem_of_getElem? (i := 17) rfl)) (hw _ (List.mem_of_getElem? (i := 18) rfl)) (hw _ (List.mem_of_getElem? (i := 19) rfl)) (by decide) e172 (rmB l Z a0 hw hi lo (2 : Int32) h172) (by exact hml.symm) (argsL := [(.long hi), (.long lo), (.int (2 : Int32))]) (rest := [(.int (2 : Int32)), (.ref b), (.ref b)]) rfl rfl pd_1 rfl (Nat.le_of_ble_eq_true rfl) (Nat.le_of_ble_eq_true rfl) (Nat.le_of_ble_eq_true rfl) (Nat.le_of_ble_eq_true rfl) (hb hby at_75) (q := 78) rfl (g_pure rfl rfl fun T181 X181 e181 => ?_)
    show Go p e below _ (T181.setTop (mkF m 78 #[.val (.long hi), .second, .val (.long lo), .second, .val (.int k), .val (.ref rs), .val (.ref ar), .unset, .unset] [(.int (own_byte hi lo (2 : Int32))), (.int (2 : Int32)), (.ref b), (.ref b)]))
    refine g_bastore X181 hx hZ e181 V172 (by decide) (by decide) (y := own_byte hi lo (2 : Int32)) (own_byte_nar _ _ _) (hb hby at_78) (q := 79) rfl fun T182 h182 X182 e182 W182 U182 => ?_
    have N182 := Fr.snoc X182 N172 ge_b
    have z_182 := Nat.le_trans z_172 (Keep.of_wr W182).1
    have f183 := (f173.wr W182)
    have f184 := (f174.wr W182)
    have f185 := (f175.wr W182)
    have f186 := (f176.wr W182)
    have f187 := (f177.wr W182)
    have f188 := (f178.wr W182)
    have f189 := (f179.other W182 (Or.inl ne_ar_b))
    have f190 := (f180.other W182 ne_ao_b)
    have V182 : Af Z h182 b .byte 16 (fun i => if i < 3 then .int (own_byte hi lo (Int32.ofNat i)) else .int (0 : Int32)) := own_fill (F := fun i => .int (own_byte hi lo (Int32.ofNat i))) 2 U182
    refine g_dup X182 hx (hb hby at_79) rfl (q := 80) rfl ?_
    refine g_iconst X182 hx (hb hby at_80) (n := (3 : Int32)) (by decide) (q := 81) rfl ?_
    refine g_lloadN X182 hx (hb hby at_81) (v := hi) rfl (q := 82) rfl ?_
    refine g_lloadN X182 hx (hb hby at_82) (v := lo) rfl (q := 83) rfl ?_
    refine g_iconst X182 hx (hb hby at_83) (n := (3 : Int32)) (by decide) (q := 84) rfl ?_
    refine g_callS X182 hx hZ hown (hw _ (List.mem_of_getElem? (i := 16) rfl)) (hw _ (List.mem_of_getElem? (i := 17) rfl)) (hw _ (List.mem_of_getElem? (i := 18) rfl)) (hw _ (List.mem_of_getElem? (i := 19) rfl)) (by decide) e182 (rmB l Z a0 hw hi lo (3 : Int32) h182) (by exact hml.symm) (argsL := [(.long hi), (.long lo), (.int (3 : Int32))]) (rest := [(.int (3 : Int32)), (.ref b), (.ref b)]) rfl rfl pd_1 rfl (Nat.le_of_ble_eq_true rfl) (Nat.le_of_ble_eq_true rfl) (Nat.le_of_ble_eq_true rfl) (Nat.le_of_ble_eq_true rfl) (hb hby at_84) (q := 87) rfl (g_pure rfl rfl fun T191 X191 e191 => ?_)
    show Go p e below _ (T191.setTop (mkF m 87 #[.val (.long hi), .second, .val (.long lo), .second, .val (.int k), .val (.ref rs), .val (.ref ar), .unset, .unset] [(.int (own_byte hi lo (3 : Int32))), (.int (3 : Int32)), (.ref b), (.ref b)]))
    refine g_bastore X191 hx hZ e191 V182 (by decide) (by decide) (y := own_byte hi lo (3 : Int32)) (own_byte_nar _ _ _) (hb hby at_87) (q := 88) rfl fun T192 h192 X192 e192 W192 U192 => ?_
    have N192 := Fr.snoc X192 N182 ge_b
    have z_192 := Nat.le_trans z_182 (Keep.of_wr W192).1
    have f193 := (f183.wr W192)
    have f194 := (f184.wr W192)
    have f195 := (f185.wr W192)
    have f196 := (f186.wr W192)
    have f197 := (f187.wr W192)
    have f198 := (f188.wr W192)
    have f199 := (f189.other W192 (Or.inl ne_ar_b))
    have f200 := (f190.other W192 ne_ao_b)
    have V192 : Af Z h192 b .byte 16 (fun i => if i < 4 then .int (own_byte hi lo (Int32.ofNat i)) else .int (0 : Int32)) := own_fill (F := fun i => .int (own_byte hi lo (Int32.ofNat i))) 3 U192
    refine g_dup X192 hx (hb hby at_88) rfl (q := 89) rfl ?_
    refine g_iconst X192 hx (hb hby at_89) (n := (4 : Int32)) (by decide) (q := 90) rfl ?_
    refine g_lloadN X192 hx (hb hby at_90) (v := hi) rfl (q := 91) rfl ?_
    refine g_lloadN X192 hx (hb hby at_91) (v := lo) rfl (q := 92) rfl ?_
    refine g_iconst X192 hx (hb hby at_92) (n := (4 : Int32)) (by decide) (q := 93) rfl ?_
    refine g_callS X192 hx hZ hown (hw _ (List.mem_of_getElem? (i := 16) rfl)) (hw _ (List.mem_of_getElem? (i := 17) rfl)) (hw _ (List.mem_of_getElem? (i := 18) rfl)) (hw _ (List.mem_of_getElem? (i := 19) rfl)) (by decide) e192 (rmB l Z a0 hw hi lo (4 : Int32) h192) (by exact hml.symm) (argsL := [(.long hi), (.long lo), (.int (4 : Int32))]) (rest := [(.int (4 : Int32)), (.ref b), (.ref b)]) rfl rfl pd_1 rfl (Nat.le_of_ble_eq_true rfl) (Nat.le_of_ble_eq_true rfl) (Nat.le_of_ble_eq_true rfl) (Nat.le_of_ble_eq_true rfl) (hb hby at_93) (q := 96) rfl (g_pure rfl rfl fun T201 X201 e201 => ?_)
    show Go p e below _ (T201.setTop (mkF m 96 #[.val (.long hi), .second, .val (.long lo), .second, .val (.int k), .val (.ref rs), .val (.ref ar), .unset, .unset] [(.int (own_byte hi lo (4 : Int32))), (.int (4 : Int32)), (.ref b), (.ref b)]))
    refine g_bastore X201 hx hZ e201 V192 (by decide) (by decide) (y := own_byte hi lo (4 : Int32)) (own_byte_nar _ _ _) (hb hby at_96) (q := 97) rfl fun T202 h202 X202 e202 W202 U202 => ?_
    have N202 := Fr.snoc X202 N192 ge_b
    have z_202 := Nat.le_trans z_192 (Keep.of_wr W202).1
    have f203 := (f193.wr W202)
    have f204 := (f194.wr W202)
    have f205 := (f195.wr W202)
    have f206 := (f196.wr W202)
    have f207 := (f197.wr W202)
    have f208 := (f198.wr W202)
    have f209 := (f199.other W202 (Or.inl ne_ar_b))
    have f210 := (f200.other W202 ne_ao_b)
    have V202 : Af Z h202 b .byte 16 (fun i => if i < 5 then .int (own_byte hi lo (Int32.ofNat i)) else .int (0 : Int32)) := own_fill (F := fun i => .int (own_byte hi lo (Int32.ofNat i))) 4 U202
    refine g_dup X202 hx (hb hby at_97) rfl (q := 98) rfl ?_
    refine g_iconst X202 hx (hb hby at_98) (n := (5 : Int32)) (by decide) (q := 99) rfl ?_
    refine g_lloadN X202 hx (hb hby at_99) (v := hi) rfl (q := 100) rfl ?_
    refine g_lloadN X202 hx (hb hby at_100) (v := lo) rfl (q := 101) rfl ?_
    refine g_iconst X202 hx (hb hby at_101) (n := (5 : Int32)) (by decide) (q := 102) rfl ?_
    refine g_callS X202 hx hZ hown (hw _ (List.mem_of_getElem? (i := 16) rfl)) (hw _ (List.mem_of_getElem? (i := 17) rfl)) (hw _ (List.mem_of_getElem? (i := 18) rfl)) (hw _ (List.mem_of_getElem? (i := 19) rfl)) (by decide) e202 (rmB l Z a0 hw hi lo (5 : Int32) h202) (by exact hml.symm) (argsL := [(.long hi), (.long lo), (.int (5 : Int32))]) (rest := [(.int (5 : Int32)), (.ref b), (.ref b)]) rfl rfl pd_1 rfl (Nat.le_of_ble_eq_true rfl) (Nat.le_of_ble_eq_true rfl) (Nat.le_of_ble_eq_true rfl) (Nat.le_of_ble_eq_true rfl) (hb hby at_102) (q := 105) rfl (g_pure rfl rfl fun T211 X211 e211 => ?_)
    show Go p e below _ (T211.setTop (mkF m 105 #[.val (.long hi), .second, .val (.long lo), .second, .val (.int k), .val (.ref rs), .val (.ref ar), .unset, .unset] [(.int (own_byte hi lo (5 : Int32))), (.int (5 : Int32)), (.ref b), (.ref b)]))
    refine g_bastore X211 hx hZ e211 V202 (by decide) (by decide) (y := own_byte hi lo (5 : Int32)) (own_byte_nar _ _ _) (hb hby at_105) (q := 106) rfl fun T212 h212 X212 e212 W212 U212 => ?_
    have N212 := Fr.snoc X212 N202 ge_b
    have z_212 := Nat.le_trans z_202 (Keep.of_wr W212).1
    have f213 := (f203.wr W212)
    have f214 := (f204.wr W212)
    have f215 := (f205.wr W212)
    have f216 := (f206.wr W212)
    have f217 := (f207.wr W212)
    have f218 := (f208.wr W212)
    have f219 := (f209.other W212 (Or.inl ne_ar_b))
    have f220 := (f210.other W212 ne_ao_b)
    have V212 : Af Z h212 b .byte 16 (fun i => if i < 6 then .int (own_byte hi lo (Int32.ofNat i)) else .int (0 : Int32)) := own_fill (F := fun i => .int (own_byte hi lo (Int32.ofNat i))) 5 U212
    refine g_dup X212 hx (hb hby at_106) rfl (q := 107) rfl ?_
    refine g_bipush X212 hx (hb hby at_107) (n := (6 : Int32)) (by decide) (q := 109) rfl ?_
    refine g_lloadN X212 hx (hb hby at_109) (v := hi) rfl (q := 110) rfl ?_
    refine g_lloadN X212 hx (hb hby at_110) (v := lo) rfl (q := 111) rfl ?_
    refine g_bipush X212 hx (hb hby at_111) (n := (6 : Int32)) (by decide) (q := 113) rfl ?_
    refine g_callS X212 hx hZ hown (hw _ (List.mem_of_getElem? (i := 16) rfl)) (hw _ (List.mem_of_getElem? (i := 17) rfl)) (hw _ (List.mem_of_getElem? (i := 18) rfl)) (hw _ (List.mem_of_getElem? (i := 19) rfl)) (by decide) e212 (rmB l Z a0 hw hi lo (6 : Int32) h212) (by exact hml.symm) (argsL := [(.long hi), (.long lo), (.int (6 : Int32))]) (rest := [(.int (6 : Int32)), (.ref b), (.ref b)]) rfl rfl pd_1 rfl (Nat.le_of_ble_eq_true rfl) (Nat.le_of_ble_eq_true rfl) (Nat.le_of_ble_eq_true rfl) (Nat.le_of_ble_eq_true rfl) (hb hby at_113) (q := 116) rfl (g_pure rfl rfl fun T221 X221 e221 => ?_)
    show Go p e below _ (T221.setTop (mkF m 116 #[.val (.long hi), .second, .val (.long lo), .second, .val (.int k), .val (.ref rs), .val (.ref ar), .unset, .unset] [(.int (own_byte hi lo (6 : Int32))), (.int (6 : Int32)), (.ref b), (.ref b)]))
    refine g_bastore X221 hx hZ e221 V212 (by decide) (by decide) (y := own_byte hi lo (6 : Int32)) (own_byte_nar _ _ _) (hb hby at_116) (q := 117) rfl fun T222 h222 X222 e222 W222 U222 => ?_
    have N222 := Fr.snoc X222 N212 ge_b
    have z_222 := Nat.le_trans z_212 (Keep.of_wr W222).1
    have f223 := (f213.wr W222)
    have f224 := (f214.wr W222)
    have f225 := (f215.wr W222)
    have f226 := (f216.wr W222)
    have f227 := (f217.wr W222)
    have f228 := (f218.wr W222)
    have f229 := (f219.other W222 (Or.inl ne_ar_b))
    have f230 := (f220.other W222 ne_ao_b)
    have V222 : Af Z h222 b .byte 16 (fun i => if i < 7 then .int (own_byte hi lo (Int32.ofNat i)) else .int (0 : Int32)) := own_fill (F := fun i => .int (own_byte hi lo (Int32.ofNat i))) 6 U222
    refine g_dup X222 hx (hb hby at_117) rfl (q := 118) rfl ?_
    refine g_bipush X222 hx (hb hby at_118) (n := (7 : Int32)) (by decide) (q := 120) rfl ?_
    refine g_lloadN X222 hx (hb hby at_120) (v := hi) rfl (q := 121) rfl ?_
    refine g_lloadN X222 hx (hb hby at_121) (v := lo) rfl (q := 122) rfl ?_
    refine g_bipush X222 hx (hb hby at_122) (n := (7 : Int32)) (by decide) (q := 124) rfl ?_
    refine g_callS X222 hx hZ hown (hw _ (List.mem_of_getElem? (i := 16) rfl)) (hw _ (List.mem_of_getElem? (i := 17) rfl)) (hw _ (List.mem_of_getElem? (i := 18) rfl)) (hw _ (List.mem_of_getElem? (i := 19) rfl)) (by decide) e222 (rmB l Z a0 hw hi lo (7 : Int32) h222) (by exact hml.symm) (argsL := [(.long hi), (.long lo), (.int (7 : Int32))]) (rest := [(.int (7 : Int32)), (.ref b), (.ref b)]) rfl rfl pd_1 rfl (Nat.le_of_ble_eq_true rfl) (Nat.le_of_ble_eq_true rfl) (Nat.le_of_ble_eq_true rfl) (Nat.le_of_ble_eq_true rfl) (hb hby at_124) (q := 127) rfl (g_pure rfl rfl fun T231 X231 e231 => ?_)
    show Go p e below _ (T231.setTop (mkF m 127 #[.val (.long hi), .second, .val (.long lo), .second, .val (.int k), .val (.ref rs), .val (.ref ar), .unset, .unset] [(.int (own_byte hi lo (7 : Int32))), (.int (7 : Int32)), (.ref b), (.ref b)]))
    refine g_bastore X231 hx hZ e231 V222 (by decide) (by decide) (y := own_byte hi lo (7 : Int32)) (own_byte_nar _ _ _) (hb hby at_127) (q := 128) rfl fun T232 h232 X232 e232 W232 U232 => ?_
    have N232 := Fr.snoc X232 N222 ge_b
    have z_232 := Nat.le_trans z_222 (Keep.of_wr W232).1
    have f233 := (f223.wr W232)
    have f234 := (f224.wr W232)
    have f235 := (f225.wr W232)
    have f236 := (f226.wr W232)
    have f237 := (f227.wr W232)
    have f238 := (f228.wr W232)
    have f239 := (f229.other W232 (Or.inl ne_ar_b))
    have f240 := (f230.other W232 ne_ao_b)
    have V232 : Af Z h232 b .byte 16 (fun i => if i < 8 then .int (own_byte hi lo (Int32.ofNat i)) else .int (0 : Int32)) := own_fill (F := fun i => .int (own_byte hi lo (Int32.ofNat i))) 7 U232
    refine g_dup X232 hx (hb hby at_128) rfl (q := 129) rfl ?_
    refine g_bipush X232 hx (hb hby at_129) (n := (8 : Int32)) (by decide) (q := 131) rfl ?_
    refine g_lloadN X232 hx (hb hby at_131) (v := hi) rfl (q := 132) rfl ?_
    refine g_lloadN X232 hx (hb hby at_132) (v := lo) rfl (q := 133) rfl ?_
    refine g_bipush X232 hx (hb hby at_133) (n := (8 : Int32)) (by decide) (q := 135) rfl ?_
    refine g_callS X232 hx hZ hown (hw _ (List.mem_of_getElem? (i := 16) rfl)) (hw _ (List.mem_of_getElem? (i := 17) rfl)) (hw _ (List.mem_of_getElem? (i := 18) rfl)) (hw _ (List.mem_of_getElem? (i := 19) rfl)) (by decide) e232 (rmB l Z a0 hw hi lo (8 : Int32) h232) (by exact hml.symm) (argsL := [(.long hi), (.long lo), (.int (8 : Int32))]) (rest := [(.int (8 : Int32)), (.ref b), (.ref b)]) rfl rfl pd_1 rfl (Nat.le_of_ble_eq_true rfl) (Nat.le_of_ble_eq_true rfl) (Nat.le_of_ble_eq_true rfl) (Nat.le_of_ble_eq_true rfl) (hb hby at_135) (q := 138) rfl (g_pure rfl rfl fun T241 X241 e241 => ?_)
    show Go p e below _ (T241.setTop (mkF m 138 #[.val (.long hi), .second, .val (.long lo), .second, .val (.int k), .val (.ref rs), .val (.ref ar), .unset, .unset] [(.int (own_byte hi lo (8 : Int32))), (.int (8 : Int32)), (.ref b), (.ref b)]))
    refine g_bastore X241 hx hZ e241 V232 (by decide) (by decide) (y := own_byte hi lo (8 : Int32)) (own_byte_nar _ _ _) (hb hby at_138) (q := 139) rfl fun T242 h242 X242 e242 W242 U242 => ?_
    have N242 := Fr.snoc X242 N232 ge_b
    have z_242 := Nat.le_trans z_232 (Keep.of_wr W242).1
    have f243 := (f233.wr W242)
    have f244 := (f234.wr W242)
    have f245 := (f235.wr W242)
    have f246 := (f236.wr W242)
    have f247 := (f237.wr W242)
    have f248 := (f238.wr W242)
    have f249 := (f239.other W242 (Or.inl ne_ar_b))
    have f250 := (f240.other W242 ne_ao_b)
    have V242 : Af Z h242 b .byte 16 (fun i => if i < 9 then .int (own_byte hi lo (Int32.ofNat i)) else .int (0 : Int32)) := own_fill (F := fun i => .int (own_byte hi lo (Int32.ofNat i))) 8 U242
    refine g_dup X242 hx (hb hby at_139) rfl (q := 140) rfl ?_
    refine g_bipush X242 hx (hb hby at_140) (n := (9 : Int32)) (by decide) (q := 142) rfl ?_
    refine g_lloadN X242 hx (hb hby at_142) (v := hi) rfl (q := 143) rfl ?_
    refine g_lloadN X242 hx (hb hby at_143) (v := lo) rfl (q := 144) rfl ?_
    refine g_bipush X242 hx (hb hby at_144) (n := (9 : Int32)) (by decide) (q := 146) rfl ?_
    refine g_callS X242 hx hZ hown (hw _ (List.mem_of_getElem? (i := 16) rfl)) (hw _ (List.mem_of_getElem? (i := 17) rfl)) (hw _ (List.mem_of_getElem? (i := 18) rfl)) (hw _ (List.mem_of_getElem? (i := 19) rfl)) (by decide) e242 (rmB l Z a0 hw hi lo (9 : Int32) h242) (by exact hml.symm) (argsL := [(.long hi), (.long lo), (.int (9 : Int32))]) (rest := [(.int (9 : Int32)), (.ref b), (.ref b)]) rfl rfl pd_1 rfl (Nat.le_of_ble_eq_true rfl) (Nat.le_of_ble_eq_true rfl) (Nat.le_of_ble_eq_true rfl) (Nat.le_of_ble_eq_true rfl) (hb hby at_146) (q := 149) rfl (g_pure rfl rfl fun T251 X251 e251 => ?_)
    show Go p e below _ (T251.setTop (mkF m 149 #[.val (.long hi), .second, .val (.long lo), .second, .val (.int k), .val (.ref rs), .val (.ref ar), .unset, .unset] [(.int (own_byte hi lo (9 : Int32))), (.int (9 : Int32)), (.ref b), (.ref b)]))
    refine g_bastore X251 hx hZ e251 V242 (by decide) (by decide) (y := own_byte hi lo (9 : Int32)) (own_byte_nar _ _ _) (hb hby at_149) (q := 150) rfl fun T252 h252 X252 e252 W252 U252 => ?_
    have N252 := Fr.snoc X252 N242 ge_b
    have z_252 := Nat.le_trans z_242 (Keep.of_wr W252).1
    have f253 := (f243.wr W252)
    have f254 := (f244.wr W252)
    have f255 := (f245.wr W252)
    have f256 := (f246.wr W252)
    have f257 := (f247.wr W252)
    have f258 := (f248.wr W252)
    have f259 := (f249.other W252 (Or.inl ne_ar_b))
    have f260 := (f250.other W252 ne_ao_b)
    have V252 : Af Z h252 b .byte 16 (fun i => if i < 10 then .int (own_byte hi lo (Int32.ofNat i)) else .int (0 : Int32)) := own_fill (F := fun i => .int (own_byte hi lo (Int32.ofNat i))) 9 U252
    refine g_dup X252 hx (hb hby at_150) rfl (q := 151) rfl ?_
    refine g_bipush X252 hx (hb hby at_151) (n := (10 : Int32)) (by decide) (q := 153) rfl ?_
    refine g_lloadN X252 hx (hb hby at_153) (v := hi) rfl (q := 154) rfl ?_
    refine g_lloadN X252 hx (hb hby at_154) (v := lo) rfl (q := 155) rfl ?_
    refine g_bipush X252 hx (hb hby at_155) (n := (10 : Int32)) (by decide) (q := 157) rfl ?_
    refine g_callS X252 hx hZ hown (hw _ (List.mem_of_getElem? (i := 16) rfl)) (hw _ (List.mem_of_getElem? (i := 17) rfl)) (hw _ (List.mem_of_getElem? (i := 18) rfl)) (hw _ (List.mem_of_getElem? (i := 19) rfl)) (by decide) e252 (rmB l Z a0 hw hi lo (10 : Int32) h252) (by exact hml.symm) (argsL := [(.long hi), (.long lo), (.int (10 : Int32))]) (rest := [(.int (10 : Int32)), (.ref b), (.ref b)]) rfl rfl pd_1 rfl (Nat.le_of_ble_eq_true rfl) (Nat.le_of_ble_eq_true rfl) (Nat.le_of_ble_eq_true rfl) (Nat.le_of_ble_eq_true rfl) (hb hby at_157) (q := 160) rfl (g_pure rfl rfl fun T261 X261 e261 => ?_)
    show Go p e below _ (T261.setTop (mkF m 160 #[.val (.long hi), .second, .val (.long lo), .second, .val (.int k), .val (.ref rs), .val (.ref ar), .unset, .unset] [(.int (own_byte hi lo (10 : Int32))), (.int (10 : Int32)), (.ref b), (.ref b)]))
    refine g_bastore X261 hx hZ e261 V252 (by decide) (by decide) (y := own_byte hi lo (10 : Int32)) (own_byte_nar _ _ _) (hb hby at_160) (q := 161) rfl fun T262 h262 X262 e262 W262 U262 => ?_
    have N262 := Fr.snoc X262 N252 ge_b
    have z_262 := Nat.le_trans z_252 (Keep.of_wr W262).1
    have f263 := (f253.wr W262)
    have f264 := (f254.wr W262)
    have f265 := (f255.wr W262)
    have f266 := (f256.wr W262)
    have f267 := (f257.wr W262)
    have f268 := (f258.wr W262)
    have f269 := (f259.other W262 (Or.inl ne_ar_b))
    have f270 := (f260.other W262 ne_ao_b)
    have V262 : Af Z h262 b .byte 16 (fun i => if i < 11 then .int (own_byte hi lo (Int32.ofNat i)) else .int (0 : Int32)) := own_fill (F := fun i => .int (own_byte hi lo (Int32.ofNat i))) 10 U262
    refine g_dup X262 hx (hb hby at_161) rfl (q := 162) rfl ?_
    refine g_bipush X262 hx (hb hby at_162) (n := (11 : Int32)) (by decide) (q := 164) rfl ?_
    refine g_lloadN X262 hx (hb hby at_164) (v := hi) rfl (q := 165) rfl ?_
    refine g_lloadN X262 hx (hb hby at_165) (v := lo) rfl (q := 166) rfl ?_
    refine g_bipush X262 hx (hb hby at_166) (n := (11 : Int32)) (by decide) (q := 168) rfl ?_
    refine g_callS X262 hx hZ hown (hw _ (List.mem_of_getElem? (i := 16) rfl)) (hw _ (List.mem_of_getElem? (i := 17) rfl)) (hw _ (List.mem_of_getElem? (i := 18) rfl)) (hw _ (List.mem_of_getElem? (i := 19) rfl)) (by decide) e262 (rmB l Z a0 hw hi lo (11 : Int32) h262) (by exact hml.symm) (argsL := [(.long hi), (.long lo), (.int (11 : Int32))]) (rest := [(.int (11 : Int32)), (.ref b), (.ref b)]) rfl rfl pd_1 rfl (Nat.le_of_ble_eq_true rfl) (Nat.le_of_ble_eq_true rfl) (Nat.le_of_ble_eq_true rfl) (Nat.le_of_ble_eq_true rfl) (hb hby at_168) (q := 171) rfl (g_pure rfl rfl fun T271 X271 e271 => ?_)
    show Go p e below _ (T271.setTop (mkF m 171 #[.val (.long hi), .second, .val (.long lo), .second, .val (.int k), .val (.ref rs), .val (.ref ar), .unset, .unset] [(.int (own_byte hi lo (11 : Int32))), (.int (11 : Int32)), (.ref b), (.ref b)]))
    refine g_bastore X271 hx hZ e271 V262 (by decide) (by decide) (y := own_byte hi lo (11 : Int32)) (own_byte_nar _ _ _) (hb hby at_171) (q := 172) rfl fun T272 h272 X272 e272 W272 U272 => ?_
    have N272 := Fr.snoc X272 N262 ge_b
    have z_272 := Nat.le_trans z_262 (Keep.of_wr W272).1
    have f273 := (f263.wr W272)
    have f274 := (f264.wr W272)
    have f275 := (f265.wr W272)
    have f276 := (f266.wr W272)
    have f277 := (f267.wr W272)
    have f278 := (f268.wr W272)
    have f279 := (f269.other W272 (Or.inl ne_ar_b))
    have f280 := (f270.other W272 ne_ao_b)
    have V272 : Af Z h272 b .byte 16 (fun i => if i < 12 then .int (own_byte hi lo (Int32.ofNat i)) else .int (0 : Int32)) := own_fill (F := fun i => .int (own_byte hi lo (Int32.ofNat i))) 11 U272
    refine g_dup X272 hx (hb hby at_172) rfl (q := 173) rfl ?_
    refine g_bipush X272 hx (hb hby at_173) (n := (12 : Int32)) (by decide) (q := 175) rfl ?_
    refine g_lloadN X272 hx (hb hby at_175) (v := hi) rfl (q := 176) rfl ?_
    refine g_lloadN X272 hx (hb hby at_176) (v := lo) rfl (q := 177) rfl ?_
    refine g_bipush X272 hx (hb hby at_177) (n := (12 : Int32)) (by decide) (q := 179) rfl ?_
    refine g_callS X272 hx hZ hown (hw _ (List.mem_of_getElem? (i := 16) rfl)) (hw _ (List.mem_of_getElem? (i := 17) rfl)) (hw _ (List.mem_of_getElem? (i := 18) rfl)) (hw _ (List.mem_of_getElem? (i := 19) rfl)) (by decide) e272 (rmB l Z a0 hw hi lo (12 : Int32) h272) (by exact hml.symm) (argsL := [(.long hi), (.long lo), (.int (12 : Int32))]) (rest := [(.int (12 : Int32)), (.ref b), (.ref b)]) rfl rfl pd_1 rfl (Nat.le_of_ble_eq_true rfl) (Nat.le_of_ble_eq_true rfl) (Nat.le_of_ble_eq_true rfl) (Nat.le_of_ble_eq_true rfl) (hb hby at_179) (q := 182) rfl (g_pure rfl rfl fun T281 X281 e281 => ?_)
    show Go p e below _ (T281.setTop (mkF m 182 #[.val (.long hi), .second, .val (.long lo), .second, .val (.int k), .val (.ref rs), .val (.ref ar), .unset, .unset] [(.int (own_byte hi lo (12 : Int32))), (.int (12 : Int32)), (.ref b), (.ref b)]))
    refine g_bastore X281 hx hZ e281 V272 (by decide) (by decide) (y := own_byte hi lo (12 : Int32)) (own_byte_nar _ _ _) (hb hby at_182) (q := 183) rfl fun T282 h282 X282 e282 W282 U282 => ?_
    have N282 := Fr.snoc X282 N272 ge_b
    have z_282 := Nat.le_trans z_272 (Keep.of_wr W282).1
    have f283 := (f273.wr W282)
    have f284 := (f274.wr W282)
    have f285 := (f275.wr W282)
    have f286 := (f276.wr W282)
    have f287 := (f277.wr W282)
    have f288 := (f278.wr W282)
    have f289 := (f279.other W282 (Or.inl ne_ar_b))
    have f290 := (f280.other W282 ne_ao_b)
    have V282 : Af Z h282 b .byte 16 (fun i => if i < 13 then .int (own_byte hi lo (Int32.ofNat i)) else .int (0 : Int32)) := own_fill (F := fun i => .int (own_byte hi lo (Int32.ofNat i))) 12 U282
    refine g_dup X282 hx (hb hby at_183) rfl (q := 184) rfl ?_
    refine g_bipush X282 hx (hb hby at_184) (n := (13 : Int32)) (by decide) (q := 186) rfl ?_
    refine g_lloadN X282 hx (hb hby at_186) (v := hi) rfl (q := 187) rfl ?_
    refine g_lloadN X282 hx (hb hby at_187) (v := lo) rfl (q := 188) rfl ?_
    refine g_bipush X282 hx (hb hby at_188) (n := (13 : Int32)) (by decide) (q := 190) rfl ?_
    refine g_callS X282 hx hZ hown (hw _ (List.mem_of_getElem? (i := 16) rfl)) (hw _ (List.mem_of_getElem? (i := 17) rfl)) (hw _ (List.mem_of_getElem? (i := 18) rfl)) (hw _ (List.mem_of_getElem? (i := 19) rfl)) (by decide) e282 (rmB l Z a0 hw hi lo (13 : Int32) h282) (by exact hml.symm) (argsL := [(.long hi), (.long lo), (.int (13 : Int32))]) (rest := [(.int (13 : Int32)), (.ref b), (.ref b)]) rfl rfl pd_1 rfl (Nat.le_of_ble_eq_true rfl) (Nat.le_of_ble_eq_true rfl) (Nat.le_of_ble_eq_true rfl) (Nat.le_of_ble_eq_true rfl) (hb hby at_190) (q := 193) rfl (g_pure rfl rfl fun T291 X291 e291 => ?_)
    show Go p e below _ (T291.setTop (mkF m 193 #[.val (.long hi), .second, .val (.long lo), .second, .val (.int k), .val (.ref rs), .val (.ref ar), .unset, .unset] [(.int (own_byte hi lo (13 : Int32))), (.int (13 : Int32)), (.ref b), (.ref b)]))
    refine g_bastore X291 hx hZ e291 V282 (by decide) (by decide) (y := own_byte hi lo (13 : Int32)) (own_byte_nar _ _ _) (hb hby at_193) (q := 194) rfl fun T292 h292 X292 e292 W292 U292 => ?_
    have N292 := Fr.snoc X292 N282 ge_b
    have z_292 := Nat.le_trans z_282 (Keep.of_wr W292).1
    have f293 := (f283.wr W292)
    have f294 := (f284.wr W292)
    have f295 := (f285.wr W292)
    have f296 := (f286.wr W292)
    have f297 := (f287.wr W292)
    have f298 := (f288.wr W292)
    have f299 := (f289.other W292 (Or.inl ne_ar_b))
    have f300 := (f290.other W292 ne_ao_b)
    have V292 : Af Z h292 b .byte 16 (fun i => if i < 14 then .int (own_byte hi lo (Int32.ofNat i)) else .int (0 : Int32)) := own_fill (F := fun i => .int (own_byte hi lo (Int32.ofNat i))) 13 U292
    refine g_dup X292 hx (hb hby at_194) rfl (q := 195) rfl ?_
    refine g_bipush X292 hx (hb hby at_195) (n := (14 : Int32)) (by decide) (q := 197) rfl ?_
    refine g_lloadN X292 hx (hb hby at_197) (v := hi) rfl (q := 198) rfl ?_
    refine g_lloadN X292 hx (hb hby at_198) (v := lo) rfl (q := 199) rfl ?_
    refine g_bipush X292 hx (hb hby at_199) (n := (14 : Int32)) (by decide) (q := 201) rfl ?_
    refine g_callS X292 hx hZ hown (hw _ (List.mem_of_getElem? (i := 16) rfl)) (hw _ (List.mem_of_getElem? (i := 17) rfl)) (hw _ (List.mem_of_getElem? (i := 18) rfl)) (hw _ (List.mem_of_getElem? (i := 19) rfl)) (by decide) e292 (rmB l Z a0 hw hi lo (14 : Int32) h292) (by exact hml.symm) (argsL := [(.long hi), (.long lo), (.int (14 : Int32))]) (rest := [(.int (14 : Int32)), (.ref b), (.ref b)]) rfl rfl pd_1 rfl (Nat.le_of_ble_eq_true rfl) (Nat.le_of_ble_eq_true rfl) (Nat.le_of_ble_eq_true rfl) (Nat.le_of_ble_eq_true rfl) (hb hby at_201) (q := 204) rfl (g_pure rfl rfl fun T301 X301 e301 => ?_)
    show Go p e below _ (T301.setTop (mkF m 204 #[.val (.long hi), .second, .val (.long lo), .second, .val (.int k), .val (.ref rs), .val (.ref ar), .unset, .unset] [(.int (own_byte hi lo (14 : Int32))), (.int (14 : Int32)), (.ref b), (.ref b)]))
    refine g_bastore X301 hx hZ e301 V292 (by decide) (by decide) (y := own_byte hi lo (14 : Int32)) (own_byte_nar _ _ _) (hb hby at_204) (q := 205) rfl fun T302 h302 X302 e302 W302 U302 => ?_
    have N302 := Fr.snoc X302 N292 ge_b
    have z_302 := Nat.le_trans z_292 (Keep.of_wr W302).1
    have f303 := (f293.wr W302)
    have f304 := (f294.wr W302)
    have f305 := (f295.wr W302)
    have f306 := (f296.wr W302)
    have f307 := (f297.wr W302)
    have f308 := (f298.wr W302)
    have f309 := (f299.other W302 (Or.inl ne_ar_b))
    have f310 := (f300.other W302 ne_ao_b)
    have V302 : Af Z h302 b .byte 16 (fun i => if i < 15 then .int (own_byte hi lo (Int32.ofNat i)) else .int (0 : Int32)) := own_fill (F := fun i => .int (own_byte hi lo (Int32.ofNat i))) 14 U302
    refine g_dup X302 hx (hb hby at_205) rfl (q := 206) rfl ?_
    refine g_bipush X302 hx (hb hby at_206) (n := (15 : Int32)) (by decide) (q := 208) rfl ?_
    refine g_lloadN X302 hx (hb hby at_208) (v := hi) rfl (q := 209) rfl ?_
    refine g_lloadN X302 hx (hb hby at_209) (v := lo) rfl (q := 210) rfl ?_
    refine g_bipush X302 hx (hb hby at_210) (n := (15 : Int32)) (by decide) (q := 212) rfl ?_
    refine g_callS X302 hx hZ hown (hw _ (List.mem_of_getElem? (i := 16) rfl)) (hw _ (List.mem_of_getElem? (i := 17) rfl)) (hw _ (List.mem_of_getElem? (i := 18) rfl)) (hw _ (List.mem_of_getElem? (i := 19) rfl)) (by decide) e302 (rmB l Z a0 hw hi lo (15 : Int32) h302) (by exact hml.symm) (argsL := [(.long hi), (.long lo), (.int (15 : Int32))]) (rest := [(.int (15 : Int32)), (.ref b), (.ref b)]) rfl rfl pd_1 rfl (Nat.le_of_ble_eq_true rfl) (Nat.le_of_ble_eq_true rfl) (Nat.le_of_ble_eq_true rfl) (Nat.le_of_ble_eq_true rfl) (hb hby at_212) (q := 215) rfl (g_pure rfl rfl fun T311 X311 e311 => ?_)
    show Go p e below _ (T311.setTop (mkF m 215 #[.val (.long hi), .second, .val (.long lo), .second, .val (.int k), .val (.ref rs), .val (.ref ar), .unset, .unset] [(.int (own_byte hi lo (15 : Int32))), (.int (15 : Int32)), (.ref b), (.ref b)]))
    refine g_bastore X311 hx hZ e311 V302 (by decide) (by decide) (y := own_byte hi lo (15 : Int32)) (own_byte_nar _ _ _) (hb hby at_215) (q := 216) rfl fun T312 h312 X312 e312 W312 U312 => ?_
    have N312 := Fr.snoc X312 N302 ge_b
    have z_312 := Nat.le_trans z_302 (Keep.of_wr W312).1
    have f313 := (f303.wr W312)
    have f314 := (f304.wr W312)
    have f315 := (f305.wr W312)
    have f316 := (f306.wr W312)
    have f317 := (f307.wr W312)
    have f318 := (f308.wr W312)
    have f319 := (f309.other W312 (Or.inl ne_ar_b))
    have f320 := (f310.other W312 ne_ao_b)
    have V312 : Af Z h312 b .byte 16 (fun i => if i < 16 then .int (own_byte hi lo (Int32.ofNat i)) else .int (0 : Int32)) := own_fill (F := fun i => .int (own_byte hi lo (Int32.ofNat i))) 15 U312
    refine g_astore X312 hx (hb hby at_216) rfl (L' := #[.val (.long hi), .second, .val (.long lo), .second, .val (.int k), .val (.ref rs), .val (.ref ar), .val (.ref b), .unset]) rfl (q := 218) rfl ?_
    refine g_aload X312 hx (hb hby at_218) (v := (.ref ar)) rfl rfl (q := 220) rfl ?_
    refine g_aload X312 hx (hb hby at_220) (v := (.ref b)) rfl rfl (q := 222) rfl ?_
    have VB : Af Z h312 b .byte 16 (fun i => .int (own_byte hi lo (Int32.ofNat i))) := V312.congr (fun i hi => if_pos hi)
    refine g_callV X312 hx hZ hown (hw _ (List.mem_of_getElem? (i := 20) rfl)) (hw _ (List.mem_of_getElem? (i := 21) rfl)) (hw _ (List.mem_of_getElem? (i := 23) rfl)) (hw _ (List.mem_of_getElem? (i := 22) rfl)) (hw _ (List.mem_of_getElem? (i := 24) rfl)) (hw _ (List.mem_of_getElem? (i := 3) rfl)) (notFace_of_selects (args := #[]) (mvT hZ (hw _ (List.mem_of_getElem? (i := 23) rfl)))) (by decide) e312 f318 (rmO l Z a0 hw ar b ao hi lo og hog h312 n0 z_312 f318 f319 f320 VB) (by exact hml.symm) (argsL := [(.ref b)]) (rest := []) rfl rfl pd_2 rfl (Nat.le_of_ble_eq_true rfl) (Nat.le_of_ble_eq_true rfl) (Nat.le_of_ble_eq_true rfl) (Nat.le_of_ble_eq_true rfl) (hb hby at_222) (q := 225) rfl (fun v321 T321 L321 X321 hQ321 => ?_)
    generalize e321 : T321.heap = h321 at hQ321
    obtain ⟨r, rfl, M321, K321, gr321, R321⟩ := hQ321
    have N321 := Fr.app N312 M321
    have ne_b_r : b ≠ r := Nat.ne_of_lt (Nat.lt_of_lt_of_le VB.lt gr321)
    have z_321 := Nat.le_trans z_312 K321.1
    have f322 := (own_sta_keep f313 K321 ns0)
    have f323 := (own_sta_keep f314 K321 ns0)
    have f324 := (own_sta_keep f315 K321 ns0)
    have f325 := (own_sta_keep f316 K321 ns0)
    have f326 := (own_sta_keep f317 K321 ns0)
    have f327 := (f318.keep K321)
    have f328 := (f319.keep K321 nin0)
    have f329 := (f320.keep K321 nin0)
    have f330 := (VB.keep K321 nin0)
    show Go p e below _ (T321.setTop (mkF m 225 #[.val (.long hi), .second, .val (.long lo), .second, .val (.int k), .val (.ref rs), .val (.ref ar), .val (.ref b), .unset] [(.ref r)]))
    refine g_astore X321 hx (hb hby at_225) rfl (L' := #[.val (.long hi), .second, .val (.long lo), .second, .val (.int k), .val (.ref rs), .val (.ref ar), .val (.ref b), .val (.ref r)]) rfl (q := 227) rfl ?_
    refine g_aload X321 hx (hb hby at_227) (v := (.ref r)) rfl rfl (q := 229) rfl ?_
    refine g_ifnullN X321 hx (hb hby at_229) (q := 232) rfl ?_
    refine g_aload X321 hx (hb hby at_232) (v := (.ref r)) rfl rfl (q := 234) rfl ?_
    refine g_aload X321 hx (hb hby at_234) (v := (.ref b)) rfl rfl (q := 236) rfl ?_
    refine g_acmpEq X321 hx rfl rfl (hb hby at_236) (by decide) (q := 247) (by decide) (q2 := 239) rfl (fun hb236 => absurd hb236 (own_noref (fun q => ne_b_r q.symm))) (fun hb236 => ?_)
    refine g_aload X321 hx (hb hby at_239) (v := (.ref r)) rfl rfl (q := 241) rfl ?_
    refine g_len X321 hx hZ e321 R321 (z := (16 : Int32)) rfl (hb hby at_241) (q := 242) rfl ?_
    refine g_bipush X321 hx (hb hby at_242) (n := (16 : Int32)) (by decide) (q := 244) rfl ?_
    refine g_icmp_eq X321 hx (hb hby at_244) (by decide) (q := 249) (by decide) (q2 := 247) rfl (fun hb244 => ?_) (fun hb244 => absurd hb244 (by decide))
    refine g_aload X321 hx (hb hby at_249) (v := (.ref ar)) rfl rfl (q := 251) rfl ?_
    refine g_aload X321 hx (hb hby at_251) (v := (.ref b)) rfl rfl (q := 253) rfl ?_
    refine g_aload X321 hx (hb hby at_253) (v := (.ref r)) rfl rfl (q := 255) rfl ?_
    refine g_lloadN X321 hx (hb hby at_255) (v := hi) rfl (q := 256) rfl ?_
    refine g_lloadN X321 hx (hb hby at_256) (v := lo) rfl (q := 257) rfl ?_
    refine g_iconst X321 hx (hb hby at_257) (n := (0 : Int32)) (by decide) (q := 258) rfl ?_
    refine g_callS X321 hx hZ hown (hw _ (List.mem_of_getElem? (i := 27) rfl)) (hw _ (List.mem_of_getElem? (i := 28) rfl)) (hw _ (List.mem_of_getElem? (i := 18) rfl)) (hw _ (List.mem_of_getElem? (i := 29) rfl)) (by decide) e321 (rmK l Z a0 hw ar b r w1 w2 hi lo (0 : Int32) _ _ h321 f323 f324 f330 R321 (by decide) (by decide) rfl (congrArg (fun z => Value.int (own_byte hi lo z)) (hsrc 0 (by decide)).symm)) (by exact hml.symm) (argsL := [(.ref ar), (.ref b), (.ref r), (.long hi), (.long lo), (.int (0 : Int32))]) (rest := []) rfl rfl pd_3 rfl (Nat.le_of_ble_eq_true rfl) (Nat.le_of_ble_eq_true rfl) (Nat.le_of_ble_eq_true rfl) (Nat.le_of_ble_eq_true rfl) (hb hby at_258) (q := 261) rfl (g_pure rfl rfl fun T331 X331 e331 => ?_)
    show Go p e below _ (T331.setTop (mkF m 261 #[.val (.long hi), .second, .val (.long lo), .second, .val (.int k), .val (.ref rs), .val (.ref ar), .val (.ref b), .val (.ref r)] [(.int (1 : Int32))]))
    refine g_if_eq X331 hx (hb hby at_261) (by decide) (q := 503) (by decide) (q2 := 264) rfl (fun hb261 => absurd hb261 (by decide)) (fun hb261 => ?_)
    refine g_aload X331 hx (hb hby at_264) (v := (.ref ar)) rfl rfl (q := 266) rfl ?_
    refine g_aload X331 hx (hb hby at_266) (v := (.ref b)) rfl rfl (q := 268) rfl ?_
    refine g_aload X331 hx (hb hby at_268) (v := (.ref r)) rfl rfl (q := 270) rfl ?_
    refine g_lloadN X331 hx (hb hby at_270) (v := hi) rfl (q := 271) rfl ?_
    refine g_lloadN X331 hx (hb hby at_271) (v := lo) rfl (q := 272) rfl ?_
    refine g_iconst X331 hx (hb hby at_272) (n := (1 : Int32)) (by decide) (q := 273) rfl ?_
    refine g_callS X331 hx hZ hown (hw _ (List.mem_of_getElem? (i := 27) rfl)) (hw _ (List.mem_of_getElem? (i := 28) rfl)) (hw _ (List.mem_of_getElem? (i := 18) rfl)) (hw _ (List.mem_of_getElem? (i := 29) rfl)) (by decide) e331 (rmK l Z a0 hw ar b r w1 w2 hi lo (1 : Int32) _ _ h321 f323 f324 f330 R321 (by decide) (by decide) rfl (congrArg (fun z => Value.int (own_byte hi lo z)) (hsrc 1 (by decide)).symm)) (by exact hml.symm) (argsL := [(.ref ar), (.ref b), (.ref r), (.long hi), (.long lo), (.int (1 : Int32))]) (rest := []) rfl rfl pd_3 rfl (Nat.le_of_ble_eq_true rfl) (Nat.le_of_ble_eq_true rfl) (Nat.le_of_ble_eq_true rfl) (Nat.le_of_ble_eq_true rfl) (hb hby at_273) (q := 276) rfl (g_pure rfl rfl fun T332 X332 e332 => ?_)
    show Go p e below _ (T332.setTop (mkF m 276 #[.val (.long hi), .second, .val (.long lo), .second, .val (.int k), .val (.ref rs), .val (.ref ar), .val (.ref b), .val (.ref r)] [(.int (1 : Int32))]))
    refine g_if_eq X332 hx (hb hby at_276) (by decide) (q := 503) (by decide) (q2 := 279) rfl (fun hb276 => absurd hb276 (by decide)) (fun hb276 => ?_)
    refine g_aload X332 hx (hb hby at_279) (v := (.ref ar)) rfl rfl (q := 281) rfl ?_
    refine g_aload X332 hx (hb hby at_281) (v := (.ref b)) rfl rfl (q := 283) rfl ?_
    refine g_aload X332 hx (hb hby at_283) (v := (.ref r)) rfl rfl (q := 285) rfl ?_
    refine g_lloadN X332 hx (hb hby at_285) (v := hi) rfl (q := 286) rfl ?_
    refine g_lloadN X332 hx (hb hby at_286) (v := lo) rfl (q := 287) rfl ?_
    refine g_iconst X332 hx (hb hby at_287) (n := (2 : Int32)) (by decide) (q := 288) rfl ?_
    refine g_callS X332 hx hZ hown (hw _ (List.mem_of_getElem? (i := 27) rfl)) (hw _ (List.mem_of_getElem? (i := 28) rfl)) (hw _ (List.mem_of_getElem? (i := 18) rfl)) (hw _ (List.mem_of_getElem? (i := 29) rfl)) (by decide) e332 (rmK l Z a0 hw ar b r w1 w2 hi lo (2 : Int32) _ _ h321 f323 f324 f330 R321 (by decide) (by decide) rfl (congrArg (fun z => Value.int (own_byte hi lo z)) (hsrc 2 (by decide)).symm)) (by exact hml.symm) (argsL := [(.ref ar), (.ref b), (.ref r), (.long hi), (.long lo), (.int (2 : Int32))]) (rest := []) rfl rfl pd_3 rfl (Nat.le_of_ble_eq_true rfl) (Nat.le_of_ble_eq_true rfl) (Nat.le_of_ble_eq_true rfl) (Nat.le_of_ble_eq_true rfl) (hb hby at_288) (q := 291) rfl (g_pure rfl rfl fun T333 X333 e333 => ?_)
    show Go p e below _ (T333.setTop (mkF m 291 #[.val (.long hi), .second, .val (.long lo), .second, .val (.int k), .val (.ref rs), .val (.ref ar), .val (.ref b), .val (.ref r)] [(.int (1 : Int32))]))
    refine g_if_eq X333 hx (hb hby at_291) (by decide) (q := 503) (by decide) (q2 := 294) rfl (fun hb291 => absurd hb291 (by decide)) (fun hb291 => ?_)
    refine g_aload X333 hx (hb hby at_294) (v := (.ref ar)) rfl rfl (q := 296) rfl ?_
    refine g_aload X333 hx (hb hby at_296) (v := (.ref b)) rfl rfl (q := 298) rfl ?_
    refine g_aload X333 hx (hb hby at_298) (v := (.ref r)) rfl rfl (q := 300) rfl ?_
    refine g_lloadN X333 hx (hb hby at_300) (v := hi) rfl (q := 301) rfl ?_
    refine g_lloadN X333 hx (hb hby at_301) (v := lo) rfl (q := 302) rfl ?_
    refine g_iconst X333 hx (hb hby at_302) (n := (3 : Int32)) (by decide) (q := 303) rfl ?_
    refine g_callS X333 hx hZ hown (hw _ (List.mem_of_getElem? (i := 27) rfl)) (hw _ (List.mem_of_getElem? (i := 28) rfl)) (hw _ (List.mem_of_getElem? (i := 18) rfl)) (hw _ (List.mem_of_getElem? (i := 29) rfl)) (by decide) e333 (rmK l Z a0 hw ar b r w1 w2 hi lo (3 : Int32) _ _ h321 f323 f324 f330 R321 (by decide) (by decide) rfl (congrArg (fun z => Value.int (own_byte hi lo z)) (hsrc 3 (by decide)).symm)) (by exact hml.symm) (argsL := [(.ref ar), (.ref b), (.ref r), (.long hi), (.long lo), (.int (3 : Int32))]) (rest := []) rfl rfl pd_3 rfl (Nat.le_of_ble_eq_true rfl) (Nat.le_of_ble_eq_true rfl) (Nat.le_of_ble_eq_true rfl) (Nat.le_of_ble_eq_true rfl) (hb hby at_303) (q := 306) rfl (g_pure rfl rfl fun T334 X334 e334 => ?_)
    show Go p e below _ (T334.setTop (mkF m 306 #[.val (.long hi), .second, .val (.long lo), .second, .val (.int k), .val (.ref rs), .val (.ref ar), .val (.ref b), .val (.ref r)] [(.int (1 : Int32))]))
    refine g_if_eq X334 hx (hb hby at_306) (by decide) (q := 503) (by decide) (q2 := 309) rfl (fun hb306 => absurd hb306 (by decide)) (fun hb306 => ?_)
    refine g_aload X334 hx (hb hby at_309) (v := (.ref ar)) rfl rfl (q := 311) rfl ?_
    refine g_aload X334 hx (hb hby at_311) (v := (.ref b)) rfl rfl (q := 313) rfl ?_
    refine g_aload X334 hx (hb hby at_313) (v := (.ref r)) rfl rfl (q := 315) rfl ?_
    refine g_lloadN X334 hx (hb hby at_315) (v := hi) rfl (q := 316) rfl ?_
    refine g_lloadN X334 hx (hb hby at_316) (v := lo) rfl (q := 317) rfl ?_
    refine g_iconst X334 hx (hb hby at_317) (n := (4 : Int32)) (by decide) (q := 318) rfl ?_
    refine g_callS X334 hx hZ hown (hw _ (List.mem_of_getElem? (i := 27) rfl)) (hw _ (List.mem_of_getElem? (i := 28) rfl)) (hw _ (List.mem_of_getElem? (i := 18) rfl)) (hw _ (List.mem_of_getElem? (i := 29) rfl)) (by decide) e334 (rmK l Z a0 hw ar b r w1 w2 hi lo (4 : Int32) _ _ h321 f323 f324 f330 R321 (by decide) (by decide) rfl (congrArg (fun z => Value.int (own_byte hi lo z)) (hsrc 4 (by decide)).symm)) (by exact hml.symm) (argsL := [(.ref ar), (.ref b), (.ref r), (.long hi), (.long lo), (.int (4 : Int32))]) (rest := []) rfl rfl pd_3 rfl (Nat.le_of_ble_eq_true rfl) (Nat.le_of_ble_eq_true rfl) (Nat.le_of_ble_eq_true rfl) (Nat.le_of_ble_eq_true rfl) (hb hby at_318) (q := 321) rfl (g_pure rfl rfl fun T335 X335 e335 => ?_)
    show Go p e below _ (T335.setTop (mkF m 321 #[.val (.long hi), .second, .val (.long lo), .second, .val (.int k), .val (.ref rs), .val (.ref ar), .val (.ref b), .val (.ref r)] [(.int (1 : Int32))]))
    refine g_if_eq X335 hx (hb hby at_321) (by decide) (q := 503) (by decide) (q2 := 324) rfl (fun hb321 => absurd hb321 (by decide)) (fun hb321 => ?_)
    refine g_aload X335 hx (hb hby at_324) (v := (.ref ar)) rfl rfl (q := 326) rfl ?_
    refine g_aload X335 hx (hb hby at_326) (v := (.ref b)) rfl rfl (q := 328) rfl ?_
    refine g_aload X335 hx (hb hby at_328) (v := (.ref r)) rfl rfl (q := 330) rfl ?_
    refine g_lloadN X335 hx (hb hby at_330) (v := hi) rfl (q := 331) rfl ?_
    refine g_lloadN X335 hx (hb hby at_331) (v := lo) rfl (q := 332) rfl ?_
    refine g_iconst X335 hx (hb hby at_332) (n := (5 : Int32)) (by decide) (q := 333) rfl ?_
    refine g_callS X335 hx hZ hown (hw _ (List.mem_of_getElem? (i := 27) rfl)) (hw _ (List.mem_of_getElem? (i := 28) rfl)) (hw _ (List.mem_of_getElem? (i := 18) rfl)) (hw _ (List.mem_of_getElem? (i := 29) rfl)) (by decide) e335 (rmK l Z a0 hw ar b r w1 w2 hi lo (5 : Int32) _ _ h321 f323 f324 f330 R321 (by decide) (by decide) rfl (congrArg (fun z => Value.int (own_byte hi lo z)) (hsrc 5 (by decide)).symm)) (by exact hml.symm) (argsL := [(.ref ar), (.ref b), (.ref r), (.long hi), (.long lo), (.int (5 : Int32))]) (rest := []) rfl rfl pd_3 rfl (Nat.le_of_ble_eq_true rfl) (Nat.le_of_ble_eq_true rfl) (Nat.le_of_ble_eq_true rfl) (Nat.le_of_ble_eq_true rfl) (hb hby at_333) (q := 336) rfl (g_pure rfl rfl fun T336 X336 e336 => ?_)
    show Go p e below _ (T336.setTop (mkF m 336 #[.val (.long hi), .second, .val (.long lo), .second, .val (.int k), .val (.ref rs), .val (.ref ar), .val (.ref b), .val (.ref r)] [(.int (1 : Int32))]))
    refine g_if_eq X336 hx (hb hby at_336) (by decide) (q := 503) (by decide) (q2 := 339) rfl (fun hb336 => absurd hb336 (by decide)) (fun hb336 => ?_)
    refine g_aload X336 hx (hb hby at_339) (v := (.ref ar)) rfl rfl (q := 341) rfl ?_
    refine g_aload X336 hx (hb hby at_341) (v := (.ref b)) rfl rfl (q := 343) rfl ?_
    refine g_aload X336 hx (hb hby at_343) (v := (.ref r)) rfl rfl (q := 345) rfl ?_
    refine g_lloadN X336 hx (hb hby at_345) (v := hi) rfl (q := 346) rfl ?_
    refine g_lloadN X336 hx (hb hby at_346) (v := lo) rfl (q := 347) rfl ?_
    refine g_bipush X336 hx (hb hby at_347) (n := (6 : Int32)) (by decide) (q := 349) rfl ?_
    refine g_callS X336 hx hZ hown (hw _ (List.mem_of_getElem? (i := 27) rfl)) (hw _ (List.mem_of_getElem? (i := 28) rfl)) (hw _ (List.mem_of_getElem? (i := 18) rfl)) (hw _ (List.mem_of_getElem? (i := 29) rfl)) (by decide) e336 (rmK l Z a0 hw ar b r w1 w2 hi lo (6 : Int32) _ _ h321 f323 f324 f330 R321 (by decide) (by decide) rfl (congrArg (fun z => Value.int (own_byte hi lo z)) (hsrc 6 (by decide)).symm)) (by exact hml.symm) (argsL := [(.ref ar), (.ref b), (.ref r), (.long hi), (.long lo), (.int (6 : Int32))]) (rest := []) rfl rfl pd_3 rfl (Nat.le_of_ble_eq_true rfl) (Nat.le_of_ble_eq_true rfl) (Nat.le_of_ble_eq_true rfl) (Nat.le_of_ble_eq_true rfl) (hb hby at_349) (q := 352) rfl (g_pure rfl rfl fun T337 X337 e337 => ?_)
    show Go p e below _ (T337.setTop (mkF m 352 #[.val (.long hi), .second, .val (.long lo), .second, .val (.int k), .val (.ref rs), .val (.ref ar), .val (.ref b), .val (.ref r)] [(.int (1 : Int32))]))
    refine g_if_eq X337 hx (hb hby at_352) (by decide) (q := 503) (by decide) (q2 := 355) rfl (fun hb352 => absurd hb352 (by decide)) (fun hb352 => ?_)
    refine g_aload X337 hx (hb hby at_355) (v := (.ref ar)) rfl rfl (q := 357) rfl ?_
    refine g_aload X337 hx (hb hby at_357) (v := (.ref b)) rfl rfl (q := 359) rfl ?_
    refine g_aload X337 hx (hb hby at_359) (v := (.ref r)) rfl rfl (q := 361) rfl ?_
    refine g_lloadN X337 hx (hb hby at_361) (v := hi) rfl (q := 362) rfl ?_
    refine g_lloadN X337 hx (hb hby at_362) (v := lo) rfl (q := 363) rfl ?_
    refine g_bipush X337 hx (hb hby at_363) (n := (7 : Int32)) (by decide) (q := 365) rfl ?_
    refine g_callS X337 hx hZ hown (hw _ (List.mem_of_getElem? (i := 27) rfl)) (hw _ (List.mem_of_getElem? (i := 28) rfl)) (hw _ (List.mem_of_getElem? (i := 18) rfl)) (hw _ (List.mem_of_getElem? (i := 29) rfl)) (by decide) e337 (rmK l Z a0 hw ar b r w1 w2 hi lo (7 : Int32) _ _ h321 f323 f324 f330 R321 (by decide) (by decide) rfl (congrArg (fun z => Value.int (own_byte hi lo z)) (hsrc 7 (by decide)).symm)) (by exact hml.symm) (argsL := [(.ref ar), (.ref b), (.ref r), (.long hi), (.long lo), (.int (7 : Int32))]) (rest := []) rfl rfl pd_3 rfl (Nat.le_of_ble_eq_true rfl) (Nat.le_of_ble_eq_true rfl) (Nat.le_of_ble_eq_true rfl) (Nat.le_of_ble_eq_true rfl) (hb hby at_365) (q := 368) rfl (g_pure rfl rfl fun T338 X338 e338 => ?_)
    show Go p e below _ (T338.setTop (mkF m 368 #[.val (.long hi), .second, .val (.long lo), .second, .val (.int k), .val (.ref rs), .val (.ref ar), .val (.ref b), .val (.ref r)] [(.int (1 : Int32))]))
    refine g_if_eq X338 hx (hb hby at_368) (by decide) (q := 503) (by decide) (q2 := 371) rfl (fun hb368 => absurd hb368 (by decide)) (fun hb368 => ?_)
    refine g_aload X338 hx (hb hby at_371) (v := (.ref ar)) rfl rfl (q := 373) rfl ?_
    refine g_aload X338 hx (hb hby at_373) (v := (.ref b)) rfl rfl (q := 375) rfl ?_
    refine g_aload X338 hx (hb hby at_375) (v := (.ref r)) rfl rfl (q := 377) rfl ?_
    refine g_lloadN X338 hx (hb hby at_377) (v := hi) rfl (q := 378) rfl ?_
    refine g_lloadN X338 hx (hb hby at_378) (v := lo) rfl (q := 379) rfl ?_
    refine g_bipush X338 hx (hb hby at_379) (n := (8 : Int32)) (by decide) (q := 381) rfl ?_
    refine g_callS X338 hx hZ hown (hw _ (List.mem_of_getElem? (i := 27) rfl)) (hw _ (List.mem_of_getElem? (i := 28) rfl)) (hw _ (List.mem_of_getElem? (i := 18) rfl)) (hw _ (List.mem_of_getElem? (i := 29) rfl)) (by decide) e338 (rmK l Z a0 hw ar b r w1 w2 hi lo (8 : Int32) _ _ h321 f323 f324 f330 R321 (by decide) (by decide) rfl (congrArg (fun z => Value.int (own_byte hi lo z)) (hsrc 8 (by decide)).symm)) (by exact hml.symm) (argsL := [(.ref ar), (.ref b), (.ref r), (.long hi), (.long lo), (.int (8 : Int32))]) (rest := []) rfl rfl pd_3 rfl (Nat.le_of_ble_eq_true rfl) (Nat.le_of_ble_eq_true rfl) (Nat.le_of_ble_eq_true rfl) (Nat.le_of_ble_eq_true rfl) (hb hby at_381) (q := 384) rfl (g_pure rfl rfl fun T339 X339 e339 => ?_)
    show Go p e below _ (T339.setTop (mkF m 384 #[.val (.long hi), .second, .val (.long lo), .second, .val (.int k), .val (.ref rs), .val (.ref ar), .val (.ref b), .val (.ref r)] [(.int (1 : Int32))]))
    refine g_if_eq X339 hx (hb hby at_384) (by decide) (q := 503) (by decide) (q2 := 387) rfl (fun hb384 => absurd hb384 (by decide)) (fun hb384 => ?_)
    refine g_aload X339 hx (hb hby at_387) (v := (.ref ar)) rfl rfl (q := 389) rfl ?_
    refine g_aload X339 hx (hb hby at_389) (v := (.ref b)) rfl rfl (q := 391) rfl ?_
    refine g_aload X339 hx (hb hby at_391) (v := (.ref r)) rfl rfl (q := 393) rfl ?_
    refine g_lloadN X339 hx (hb hby at_393) (v := hi) rfl (q := 394) rfl ?_
    refine g_lloadN X339 hx (hb hby at_394) (v := lo) rfl (q := 395) rfl ?_
    refine g_bipush X339 hx (hb hby at_395) (n := (9 : Int32)) (by decide) (q := 397) rfl ?_
    refine g_callS X339 hx hZ hown (hw _ (List.mem_of_getElem? (i := 27) rfl)) (hw _ (List.mem_of_getElem? (i := 28) rfl)) (hw _ (List.mem_of_getElem? (i := 18) rfl)) (hw _ (List.mem_of_getElem? (i := 29) rfl)) (by decide) e339 (rmK l Z a0 hw ar b r w1 w2 hi lo (9 : Int32) _ _ h321 f323 f324 f330 R321 (by decide) (by decide) rfl (congrArg (fun z => Value.int (own_byte hi lo z)) (hsrc 9 (by decide)).symm)) (by exact hml.symm) (argsL := [(.ref ar), (.ref b), (.ref r), (.long hi), (.long lo), (.int (9 : Int32))]) (rest := []) rfl rfl pd_3 rfl (Nat.le_of_ble_eq_true rfl) (Nat.le_of_ble_eq_true rfl) (Nat.le_of_ble_eq_true rfl) (Nat.le_of_ble_eq_true rfl) (hb hby at_397) (q := 400) rfl (g_pure rfl rfl fun T340 X340 e340 => ?_)
    show Go p e below _ (T340.setTop (mkF m 400 #[.val (.long hi), .second, .val (.long lo), .second, .val (.int k), .val (.ref rs), .val (.ref ar), .val (.ref b), .val (.ref r)] [(.int (1 : Int32))]))
    refine g_if_eq X340 hx (hb hby at_400) (by decide) (q := 503) (by decide) (q2 := 403) rfl (fun hb400 => absurd hb400 (by decide)) (fun hb400 => ?_)
    refine g_aload X340 hx (hb hby at_403) (v := (.ref ar)) rfl rfl (q := 405) rfl ?_
    refine g_aload X340 hx (hb hby at_405) (v := (.ref b)) rfl rfl (q := 407) rfl ?_
    refine g_aload X340 hx (hb hby at_407) (v := (.ref r)) rfl rfl (q := 409) rfl ?_
    refine g_lloadN X340 hx (hb hby at_409) (v := hi) rfl (q := 410) rfl ?_
    refine g_lloadN X340 hx (hb hby at_410) (v := lo) rfl (q := 411) rfl ?_
    refine g_bipush X340 hx (hb hby at_411) (n := (10 : Int32)) (by decide) (q := 413) rfl ?_
    refine g_callS X340 hx hZ hown (hw _ (List.mem_of_getElem? (i := 27) rfl)) (hw _ (List.mem_of_getElem? (i := 28) rfl)) (hw _ (List.mem_of_getElem? (i := 18) rfl)) (hw _ (List.mem_of_getElem? (i := 29) rfl)) (by decide) e340 (rmK l Z a0 hw ar b r w1 w2 hi lo (10 : Int32) _ _ h321 f323 f324 f330 R321 (by decide) (by decide) rfl (congrArg (fun z => Value.int (own_byte hi lo z)) (hsrc 10 (by decide)).symm)) (by exact hml.symm) (argsL := [(.ref ar), (.ref b), (.ref r), (.long hi), (.long lo), (.int (10 : Int32))]) (rest := []) rfl rfl pd_3 rfl (Nat.le_of_ble_eq_true rfl) (Nat.le_of_ble_eq_true rfl) (Nat.le_of_ble_eq_true rfl) (Nat.le_of_ble_eq_true rfl) (hb hby at_413) (q := 416) rfl (g_pure rfl rfl fun T341 X341 e341 => ?_)
    show Go p e below _ (T341.setTop (mkF m 416 #[.val (.long hi), .second, .val (.long lo), .second, .val (.int k), .val (.ref rs), .val (.ref ar), .val (.ref b), .val (.ref r)] [(.int (1 : Int32))]))
    refine g_if_eq X341 hx (hb hby at_416) (by decide) (q := 503) (by decide) (q2 := 419) rfl (fun hb416 => absurd hb416 (by decide)) (fun hb416 => ?_)
    refine g_aload X341 hx (hb hby at_419) (v := (.ref ar)) rfl rfl (q := 421) rfl ?_
    refine g_aload X341 hx (hb hby at_421) (v := (.ref b)) rfl rfl (q := 423) rfl ?_
    refine g_aload X341 hx (hb hby at_423) (v := (.ref r)) rfl rfl (q := 425) rfl ?_
    refine g_lloadN X341 hx (hb hby at_425) (v := hi) rfl (q := 426) rfl ?_
    refine g_lloadN X341 hx (hb hby at_426) (v := lo) rfl (q := 427) rfl ?_
    refine g_bipush X341 hx (hb hby at_427) (n := (11 : Int32)) (by decide) (q := 429) rfl ?_
    refine g_callS X341 hx hZ hown (hw _ (List.mem_of_getElem? (i := 27) rfl)) (hw _ (List.mem_of_getElem? (i := 28) rfl)) (hw _ (List.mem_of_getElem? (i := 18) rfl)) (hw _ (List.mem_of_getElem? (i := 29) rfl)) (by decide) e341 (rmK l Z a0 hw ar b r w1 w2 hi lo (11 : Int32) _ _ h321 f323 f324 f330 R321 (by decide) (by decide) rfl (congrArg (fun z => Value.int (own_byte hi lo z)) (hsrc 11 (by decide)).symm)) (by exact hml.symm) (argsL := [(.ref ar), (.ref b), (.ref r), (.long hi), (.long lo), (.int (11 : Int32))]) (rest := []) rfl rfl pd_3 rfl (Nat.le_of_ble_eq_true rfl) (Nat.le_of_ble_eq_true rfl) (Nat.le_of_ble_eq_true rfl) (Nat.le_of_ble_eq_true rfl) (hb hby at_429) (q := 432) rfl (g_pure rfl rfl fun T342 X342 e342 => ?_)
    show Go p e below _ (T342.setTop (mkF m 432 #[.val (.long hi), .second, .val (.long lo), .second, .val (.int k), .val (.ref rs), .val (.ref ar), .val (.ref b), .val (.ref r)] [(.int (1 : Int32))]))
    refine g_if_eq X342 hx (hb hby at_432) (by decide) (q := 503) (by decide) (q2 := 435) rfl (fun hb432 => absurd hb432 (by decide)) (fun hb432 => ?_)
    refine g_aload X342 hx (hb hby at_435) (v := (.ref ar)) rfl rfl (q := 437) rfl ?_
    refine g_aload X342 hx (hb hby at_437) (v := (.ref b)) rfl rfl (q := 439) rfl ?_
    refine g_aload X342 hx (hb hby at_439) (v := (.ref r)) rfl rfl (q := 441) rfl ?_
    refine g_lloadN X342 hx (hb hby at_441) (v := hi) rfl (q := 442) rfl ?_
    refine g_lloadN X342 hx (hb hby at_442) (v := lo) rfl (q := 443) rfl ?_
    refine g_bipush X342 hx (hb hby at_443) (n := (12 : Int32)) (by decide) (q := 445) rfl ?_
    refine g_callS X342 hx hZ hown (hw _ (List.mem_of_getElem? (i := 27) rfl)) (hw _ (List.mem_of_getElem? (i := 28) rfl)) (hw _ (List.mem_of_getElem? (i := 18) rfl)) (hw _ (List.mem_of_getElem? (i := 29) rfl)) (by decide) e342 (rmK l Z a0 hw ar b r w1 w2 hi lo (12 : Int32) _ _ h321 f323 f324 f330 R321 (by decide) (by decide) rfl (congrArg (fun z => Value.int (own_byte hi lo z)) (hsrc 12 (by decide)).symm)) (by exact hml.symm) (argsL := [(.ref ar), (.ref b), (.ref r), (.long hi), (.long lo), (.int (12 : Int32))]) (rest := []) rfl rfl pd_3 rfl (Nat.le_of_ble_eq_true rfl) (Nat.le_of_ble_eq_true rfl) (Nat.le_of_ble_eq_true rfl) (Nat.le_of_ble_eq_true rfl) (hb hby at_445) (q := 448) rfl (g_pure rfl rfl fun T343 X343 e343 => ?_)
    show Go p e below _ (T343.setTop (mkF m 448 #[.val (.long hi), .second, .val (.long lo), .second, .val (.int k), .val (.ref rs), .val (.ref ar), .val (.ref b), .val (.ref r)] [(.int (1 : Int32))]))
    refine g_if_eq X343 hx (hb hby at_448) (by decide) (q := 503) (by decide) (q2 := 451) rfl (fun hb448 => absurd hb448 (by decide)) (fun hb448 => ?_)
    refine g_aload X343 hx (hb hby at_451) (v := (.ref ar)) rfl rfl (q := 453) rfl ?_
    refine g_aload X343 hx (hb hby at_453) (v := (.ref b)) rfl rfl (q := 455) rfl ?_
    refine g_aload X343 hx (hb hby at_455) (v := (.ref r)) rfl rfl (q := 457) rfl ?_
    refine g_lloadN X343 hx (hb hby at_457) (v := hi) rfl (q := 458) rfl ?_
    refine g_lloadN X343 hx (hb hby at_458) (v := lo) rfl (q := 459) rfl ?_
    refine g_bipush X343 hx (hb hby at_459) (n := (13 : Int32)) (by decide) (q := 461) rfl ?_
    refine g_callS X343 hx hZ hown (hw _ (List.mem_of_getElem? (i := 27) rfl)) (hw _ (List.mem_of_getElem? (i := 28) rfl)) (hw _ (List.mem_of_getElem? (i := 18) rfl)) (hw _ (List.mem_of_getElem? (i := 29) rfl)) (by decide) e343 (rmK l Z a0 hw ar b r w1 w2 hi lo (13 : Int32) _ _ h321 f323 f324 f330 R321 (by decide) (by decide) rfl (congrArg (fun z => Value.int (own_byte hi lo z)) (hsrc 13 (by decide)).symm)) (by exact hml.symm) (argsL := [(.ref ar), (.ref b), (.ref r), (.long hi), (.long lo), (.int (13 : Int32))]) (rest := []) rfl rfl pd_3 rfl (Nat.le_of_ble_eq_true rfl) (Nat.le_of_ble_eq_true rfl) (Nat.le_of_ble_eq_true rfl) (Nat.le_of_ble_eq_true rfl) (hb hby at_461) (q := 464) rfl (g_pure rfl rfl fun T344 X344 e344 => ?_)
    show Go p e below _ (T344.setTop (mkF m 464 #[.val (.long hi), .second, .val (.long lo), .second, .val (.int k), .val (.ref rs), .val (.ref ar), .val (.ref b), .val (.ref r)] [(.int (1 : Int32))]))
    refine g_if_eq X344 hx (hb hby at_464) (by decide) (q := 503) (by decide) (q2 := 467) rfl (fun hb464 => absurd hb464 (by decide)) (fun hb464 => ?_)
    refine g_aload X344 hx (hb hby at_467) (v := (.ref ar)) rfl rfl (q := 469) rfl ?_
    refine g_aload X344 hx (hb hby at_469) (v := (.ref b)) rfl rfl (q := 471) rfl ?_
    refine g_aload X344 hx (hb hby at_471) (v := (.ref r)) rfl rfl (q := 473) rfl ?_
    refine g_lloadN X344 hx (hb hby at_473) (v := hi) rfl (q := 474) rfl ?_
    refine g_lloadN X344 hx (hb hby at_474) (v := lo) rfl (q := 475) rfl ?_
    refine g_bipush X344 hx (hb hby at_475) (n := (14 : Int32)) (by decide) (q := 477) rfl ?_
    refine g_callS X344 hx hZ hown (hw _ (List.mem_of_getElem? (i := 27) rfl)) (hw _ (List.mem_of_getElem? (i := 28) rfl)) (hw _ (List.mem_of_getElem? (i := 18) rfl)) (hw _ (List.mem_of_getElem? (i := 29) rfl)) (by decide) e344 (rmK l Z a0 hw ar b r w1 w2 hi lo (14 : Int32) _ _ h321 f323 f324 f330 R321 (by decide) (by decide) rfl (congrArg (fun z => Value.int (own_byte hi lo z)) (hsrc 14 (by decide)).symm)) (by exact hml.symm) (argsL := [(.ref ar), (.ref b), (.ref r), (.long hi), (.long lo), (.int (14 : Int32))]) (rest := []) rfl rfl pd_3 rfl (Nat.le_of_ble_eq_true rfl) (Nat.le_of_ble_eq_true rfl) (Nat.le_of_ble_eq_true rfl) (Nat.le_of_ble_eq_true rfl) (hb hby at_477) (q := 480) rfl (g_pure rfl rfl fun T345 X345 e345 => ?_)
    show Go p e below _ (T345.setTop (mkF m 480 #[.val (.long hi), .second, .val (.long lo), .second, .val (.int k), .val (.ref rs), .val (.ref ar), .val (.ref b), .val (.ref r)] [(.int (1 : Int32))]))
    refine g_if_eq X345 hx (hb hby at_480) (by decide) (q := 503) (by decide) (q2 := 483) rfl (fun hb480 => absurd hb480 (by decide)) (fun hb480 => ?_)
    refine g_aload X345 hx (hb hby at_483) (v := (.ref ar)) rfl rfl (q := 485) rfl ?_
    refine g_aload X345 hx (hb hby at_485) (v := (.ref b)) rfl rfl (q := 487) rfl ?_
    refine g_aload X345 hx (hb hby at_487) (v := (.ref r)) rfl rfl (q := 489) rfl ?_
    refine g_lloadN X345 hx (hb hby at_489) (v := hi) rfl (q := 490) rfl ?_
    refine g_lloadN X345 hx (hb hby at_490) (v := lo) rfl (q := 491) rfl ?_
    refine g_bipush X345 hx (hb hby at_491) (n := (15 : Int32)) (by decide) (q := 493) rfl ?_
    refine g_callS X345 hx hZ hown (hw _ (List.mem_of_getElem? (i := 27) rfl)) (hw _ (List.mem_of_getElem? (i := 28) rfl)) (hw _ (List.mem_of_getElem? (i := 18) rfl)) (hw _ (List.mem_of_getElem? (i := 29) rfl)) (by decide) e345 (rmK l Z a0 hw ar b r w1 w2 hi lo (15 : Int32) _ _ h321 f323 f324 f330 R321 (by decide) (by decide) rfl (congrArg (fun z => Value.int (own_byte hi lo z)) (hsrc 15 (by decide)).symm)) (by exact hml.symm) (argsL := [(.ref ar), (.ref b), (.ref r), (.long hi), (.long lo), (.int (15 : Int32))]) (rest := []) rfl rfl pd_3 rfl (Nat.le_of_ble_eq_true rfl) (Nat.le_of_ble_eq_true rfl) (Nat.le_of_ble_eq_true rfl) (Nat.le_of_ble_eq_true rfl) (hb hby at_493) (q := 496) rfl (g_pure rfl rfl fun T346 X346 e346 => ?_)
    show Go p e below _ (T346.setTop (mkF m 496 #[.val (.long hi), .second, .val (.long lo), .second, .val (.int k), .val (.ref rs), .val (.ref ar), .val (.ref b), .val (.ref r)] [(.int (1 : Int32))]))
    refine g_if_eq X346 hx (hb hby at_496) (by decide) (q := 503) (by decide) (q2 := 499) rfl (fun hb496 => absurd hb496 (by decide)) (fun hb496 => ?_)
    refine g_iconst X346 hx (hb hby at_499) (n := (1 : Int32)) (by decide) (q := 500) rfl ?_
    refine g_goto X346 hx (hb hby at_500) (by decide) (q := 504) (by decide) ?_
    exact g_retB X346 hx hret hlk (hb hby at_504) (by decide) ⟨rfl, N321⟩ (Nat.le_of_ble_eq_true rfl) (Nat.le_of_ble_eq_true rfl)
  rcases own_mod5 k with hk | hk | hk | hk | hk
  · refine g_aaload X130 hx hZ e130 U130 rfl (by rw [hk]; decide) (by rw [hk]; decide) (v := (.ref w0)) (by rw [hk]; rfl) (hb hby at_45) (q := 46) rfl ?_
    exact J46 _ _ own_id own_id_in (own_src_id n01 n02) f132 f133 f134
  · refine g_aaload X130 hx hZ e130 U130 rfl (by rw [hk]; decide) (by rw [hk]; decide) (v := (.ref w1)) (by rw [hk]; rfl) (hb hby at_45) (q := 46) rfl ?_
    exact J46 _ _ own_java own_java_in own_src_java f136 f137 f138
  · refine g_aaload X130 hx hZ e130 U130 rfl (by rw [hk]; decide) (by rw [hk]; decide) (v := (.ref w2)) (by rw [hk]; rfl) (hb hby at_45) (q := 46) rfl ?_
    exact J46 _ _ own_cs own_cs_in (own_src_cs n21) f140 f141 f142
  · refine g_aaload X130 hx hZ e130 U130 rfl (by rw [hk]; decide) (by rw [hk]; decide) (v := (.ref w3)) (by rw [hk]; rfl) (hb hby at_45) (q := 46) rfl ?_
    exact J46 _ _ own_id own_id_in (own_src_id n31 n32) f144 f145 f146
  · refine g_aaload X130 hx hZ e130 U130 rfl (by rw [hk]; decide) (by rw [hk]; decide) (v := (.ref w4)) (by rw [hk]; rfl) (hb hby at_45) (q := 46) rfl ?_
    exact J46 _ _ own_id own_id_in (own_src_id n41 n42) f148 f149 f150
set_option maxRecDepth 65536 in
set_option maxHeartbeats 40000000 in
theorem comes_1 {Post : Tables → Env → Array Value → State → Outcome → State → Prop} (hpost : ∀ tb e args s v u, (limb_1_1.after args s (.returned v) u = true ∧ limb_1_2.after args s (.returned v) u = true ∧ True) → FrameEnd s (.returned v) u (Jvm.fieldLocs frame_1_writes args s ++ Jvm.arrayLocs frame_1_arrays args s ++ Jvm.staticLocs frame_1_statics s) 16 192 → Post tb e args s (.returned v) u) :
    ArmFor flags0 classFile x code maxLocals ret World_1 tables_1 room_1 Calls_1 rest_1 Pre_1 Post := by
  intro l hfl _ _ p e ha hc hk s m args below hf hA hF happ hP
  obtain ⟨hcalls, hrest, hpre⟩ := hP
  obtain ⟨-, -, -, hnamed, -, -, -, hat⟩ := (Spec.applies_iff hf).mp happ
  obtain ⟨hg, hn⟩ := and_e (Cond.before_iff.mp (show (Jvm.Cond.and given_1 narrow_1).before args s = true from hpre))
  obtain ⟨gc, gr0⟩ := and_e hg
  obtain ⟨ga0, gr1⟩ := and_e gr0
  obtain ⟨ga1, gr2⟩ := and_e gr1
  have ga2 := gr2
  obtain ⟨w0, w1, w2, rfl⟩ : ∃ w0 w1 w2 : Value, args = #[w0, w1, w2] := by
    have hs : args.size = 3 := by simpa [Cond.value, given_1] using gc
    obtain ⟨L⟩ := args
    match L, hs with
    | [w0, w1, w2], _ => exact ⟨w0, w1, w2, rfl⟩
  have hw := fun d (hd : d ∈ tables_1) => atoms_spec (ws := Jvm.Cond.code x code maxLocals ret :: tables_1) hat d (List.mem_cons_of_mem _ hd)
  have hfit : Fit s := fun {y c} hc i hi => by
    obtain ⟨ha, rfl⟩ := Array.getElem?_eq_some_iff.mp hc
    have q := List.all_eq_true.mp ((Array.all_eq_true_iff_forall_mem.mp hF) _ (Array.getElem_mem ha)) i (List.mem_range.mpr hi)
    simpa [Array.getElem?_eq_getElem hi] using q
  obtain ⟨i0, ei0⟩ := isL_v ga0
  obtain rfl : w0 = (.long i0) := Option.some.inj ei0
  obtain ⟨i1, ei1⟩ := isL_v ga1
  obtain rfl : w1 = (.long i1) := Option.some.inj ei1
  obtain ⟨i2, ei2⟩ := is_v ga2
  obtain rfl : w2 = (.int i2) := Option.some.inj ei2
  obtain ⟨n1, nr1⟩ := and_e hn
  obtain ⟨n2, nr2⟩ := and_e nr1
  obtain ⟨n3, nr3⟩ := and_e nr2
  obtain ⟨n4, nr4⟩ := and_e nr3
  obtain ⟨n5, nr5⟩ := and_e nr4
  obtain ⟨n6, nr6⟩ := and_e nr5
  obtain ⟨n7, nr7⟩ := and_e nr6
  obtain ⟨n8, nr8⟩ := and_e nr7
  obtain ⟨n9, nr9⟩ := and_e nr8
  obtain ⟨n10, nr10⟩ := and_e nr9
  obtain ⟨n11, nr11⟩ := and_e nr10
  obtain ⟨n12, nr12⟩ := and_e nr11
  obtain ⟨n13, nr13⟩ := and_e nr12
  obtain ⟨n14, nr14⟩ := and_e nr13
  obtain ⟨n15, nr15⟩ := and_e nr14
  obtain ⟨n16, nr16⟩ := and_e nr15
  obtain ⟨n17, nr17⟩ := and_e nr16
  obtain ⟨n18, nr18⟩ := and_e nr17
  obtain ⟨n19, nr19⟩ := and_e nr18
  obtain ⟨n20, nr20⟩ := and_e nr19
  obtain ⟨n21, nr21⟩ := and_e nr20
  obtain ⟨n22, nr22⟩ := and_e nr21
  obtain ⟨n23, nr23⟩ := and_e nr22
  obtain ⟨n24, nr24⟩ := and_e nr23
  obtain ⟨n25, nr25⟩ := and_e nr24
  obtain ⟨n26, nr26⟩ := and_e nr25
  obtain ⟨n27, nr27⟩ := and_e nr26
  obtain ⟨n28, nr28⟩ := and_e nr27
  obtain ⟨n29, nr29⟩ := and_e nr28
  obtain ⟨n30, nr30⟩ := and_e nr29
  obtain ⟨n31, nr31⟩ := and_e nr30
  obtain ⟨n32, nr32⟩ := and_e nr31
  obtain ⟨n33, nr33⟩ := and_e nr32
  obtain ⟨n34, nr34⟩ := and_e nr33
  obtain ⟨n35, nr35⟩ := and_e nr34
  obtain ⟨n36, nr36⟩ := and_e nr35
  obtain ⟨n37, nr37⟩ := and_e nr36
  obtain ⟨n38, nr38⟩ := and_e nr37
  obtain ⟨n39, nr39⟩ := and_e nr38
  obtain ⟨n40, nr40⟩ := and_e nr39
  obtain ⟨n41, nr41⟩ := and_e nr40
  obtain ⟨n42, nr42⟩ := and_e nr41
  obtain ⟨n43, nr43⟩ := and_e nr42
  obtain ⟨n44, nr44⟩ := and_e nr43
  obtain ⟨n45, nr45⟩ := and_e nr44
  obtain ⟨n46, nr46⟩ := and_e nr45
  obtain ⟨n47, nr47⟩ := and_e nr46
  have n48 := nr47
  obtain ⟨a0, ev0⟩ := exa_v n1
  have S0 := Sta.start ev0 (Or.inr ⟨(hw _ (List.mem_of_getElem? (i := 3) rfl)), (hw _ (List.mem_of_getElem? (i := 4) rfl))⟩)
  have E0 := Exa.start ev0 n1
  have D0 := own_fldI ev0 n8
  obtain ⟨o0, eo0⟩ := arr_v n6
  have F0 := Fld.start ((fld_at ev0).symm.trans eo0)
  obtain ⟨cl0, A0⟩ := Arr.start eo0 n6
  have L0 : cl0.slots.size = 16 := own_lenN A0 eo0 n7
  have V0 : Af s s.heap o0 .int 16 (fun i => .int (own_id i)) := ⟨cl0, A0, L0, fun i hi => own_allx (by decide) A0 L0 eo0 (fun j => by first | exact eo0 | simpa [Term.eval] using eo0) n21 i hi⟩
  obtain ⟨a1, ev1⟩ := exa_v n2
  have S1 := Sta.start ev1 (Or.inr ⟨(hw _ (List.mem_of_getElem? (i := 3) rfl)), (hw _ (List.mem_of_getElem? (i := 7) rfl))⟩)
  have E1 := Exa.start ev1 n2
  have D1 := own_fldI ev1 n9
  obtain ⟨o1, eo1⟩ := arr_v n16
  have F1 := Fld.start ((fld_at ev1).symm.trans eo1)
  obtain ⟨cl1, A1⟩ := Arr.start eo1 n16
  have L1 : cl1.slots.size = 16 := own_lenN A1 eo1 n17
  have V1 : Af s s.heap o1 .int 16 (fun i => .int (own_java i)) := by
    refine ⟨cl1, A1, L1, fun i hi => ?_⟩
    by_cases h : i < 16
    · rcases (by omega : i = 0 ∨ i = 1 ∨ i = 2 ∨ i = 3 ∨ i = 4 ∨ i = 5 ∨ i = 6 ∨ i = 7 ∨ i = 8 ∨ i = 9 ∨ i = 10 ∨ i = 11 ∨ i = 12 ∨ i = 13 ∨ i = 14 ∨ i = 15) with rfl | rfl | rfl | rfl | rfl | rfl | rfl | rfl | rfl | rfl | rfl | rfl | rfl | rfl | rfl | rfl
      · exact own_el A1 eo1 n32
      · exact own_el A1 eo1 n33
      · exact own_el A1 eo1 n34
      · exact own_el A1 eo1 n35
      · exact own_el A1 eo1 n36
      · exact own_el A1 eo1 n37
      · exact own_el A1 eo1 n38
      · exact own_el A1 eo1 n39
      · exact own_el A1 eo1 n40
      · exact own_el A1 eo1 n41
      · exact own_el A1 eo1 n42
      · exact own_el A1 eo1 n43
      · exact own_el A1 eo1 n44
      · exact own_el A1 eo1 n45
      · exact own_el A1 eo1 n46
      · exact own_el A1 eo1 n47
    · omega
  obtain ⟨a2, ev2⟩ := exa_v n3
  have S2 := Sta.start ev2 (Or.inr ⟨(hw _ (List.mem_of_getElem? (i := 3) rfl)), (hw _ (List.mem_of_getElem? (i := 9) rfl))⟩)
  have E2 := Exa.start ev2 n3
  have D2 := own_fldI ev2 n10
  obtain ⟨o2, eo2⟩ := arr_v n11
  have F2 := Fld.start ((fld_at ev2).symm.trans eo2)
  obtain ⟨cl2, A2⟩ := Arr.start eo2 n11
  have L2 : cl2.slots.size = 16 := own_lenN A2 eo2 n12
  have V2 : Af s s.heap o2 .int 16 (fun i => .int (own_cs i)) := by
    refine ⟨cl2, A2, L2, fun i hi => ?_⟩
    by_cases h : i < 8
    · rcases (by omega : i = 0 ∨ i = 1 ∨ i = 2 ∨ i = 3 ∨ i = 4 ∨ i = 5 ∨ i = 6 ∨ i = 7) with rfl | rfl | rfl | rfl | rfl | rfl | rfl | rfl
      · exact own_el A2 eo2 n22
      · exact own_el A2 eo2 n23
      · exact own_el A2 eo2 n24
      · exact own_el A2 eo2 n25
      · exact own_el A2 eo2 n26
      · exact own_el A2 eo2 n27
      · exact own_el A2 eo2 n28
      · exact own_el A2 eo2 n29
    · rw [own_ally (by decide) A2 L2 eo2 (fun j => by first | exact eo2 | simpa [Term.eval] using eo2) n30 i hi (by have : (8 : Int32).toInt = 8 := rfl; omega)]
      exact congrArg some (congrArg Value.int (own_cs_tail i hi (by omega)).symm)
  obtain ⟨a3, ev3⟩ := exa_v n4
  have S3 := Sta.start ev3 (Or.inr ⟨(hw _ (List.mem_of_getElem? (i := 3) rfl)), (hw _ (List.mem_of_getElem? (i := 11) rfl))⟩)
  have E3 := Exa.start ev3 n4
  have D3 := own_fldI ev3 n20
  obtain ⟨o3, eo3⟩ := arr_v n18
  have F3 := Fld.start ((fld_at ev3).symm.trans eo3)
  obtain ⟨cl3, A3⟩ := Arr.start eo3 n18
  have L3 : cl3.slots.size = 16 := own_lenN A3 eo3 n19
  have V3 : Af s s.heap o3 .int 16 (fun i => .int (own_id i)) := ⟨cl3, A3, L3, fun i hi => own_allx (by decide) A3 L3 eo3 (fun j => by first | exact eo3 | simpa [Term.eval] using eo3) n48 i hi⟩
  obtain ⟨a4, ev4⟩ := exa_v n5
  have S4 := Sta.start ev4 (Or.inr ⟨(hw _ (List.mem_of_getElem? (i := 3) rfl)), (hw _ (List.mem_of_getElem? (i := 13) rfl))⟩)
  have E4 := Exa.start ev4 n5
  have D4 := own_fldI ev4 n15
  obtain ⟨o4, eo4⟩ := arr_v n13
  have F4 := Fld.start ((fld_at ev4).symm.trans eo4)
  obtain ⟨cl4, A4⟩ := Arr.start eo4 n13
  have L4 : cl4.slots.size = 16 := own_lenN A4 eo4 n14
  have V4 : Af s s.heap o4 .int 16 (fun i => .int (own_id i)) := ⟨cl4, A4, L4, fun i hi => own_allx (by decide) A4 L4 eo4 (fun j => by first | exact eo4 | simpa [Term.eval] using eo4) n31 i hi⟩
  obtain ⟨n, o, h1, h2, h3, _, L, rfl, ⟨rfl, N⟩, hq⟩ := rm0 l s _ hw i0 i1 i2 a0 a1 a2 a3 a4 o0 o1 o2 o3 o4 s.heap s.heap.size (Nat.le_refl _) S0 E0 F0 V0 S1 E1 F1 V1 S2 E2 F2 V2 S3 E3 F3 V3 S4 E4 F4 V4 (D0.ne D1 (by decide)) (D0.ne D2 (by decide)) (D2.ne D1 (by decide)) (D3.ne D1 (by decide)) (D3.ne D2 (by decide)) (D4.ne D1 (by decide)) (D4.ne D2 (by decide)) tables_1 p e ha hc hk s m _ below hf ((Spec.applies_iff_loose hf).mp happ).1 ⟨rfl, State.Warmed39.refl s, rfl⟩ trivial
  refine ⟨n, _, h1, h2, h3, hpost _ _ _ _ _ _ ⟨Cond.after_iff.mpr rfl, Cond.after_iff.mpr (eq_i res_at (Term.int_eval (1)) rfl), trivial⟩ ⟨hq.1, hq.2.1, (hq.2.2.sift fun y hy => Or.inr (N y hy)).mono (by decide) (by decide)⟩⟩
theorem main_1_1 : Claimed_1_1 := comes_1 fun _ _ _ _ _ _ h hF => ⟨h.1, hF⟩
theorem main_1_2 : Claimed_1_2 := comes_1 fun _ _ _ _ _ _ h hF => ⟨h.2.1, hF⟩
end Jvm.Pilot.@@N@@
namespace Jvm.Pilot.@@N@@
open Jvm Jvm.ClassFile Sem Op Lib Jvm.Free Jvm.Stand Jvm.Pilot.@@N@@.Jvm.D
/-! MADE BY PROGRAM (witnessworld.py) out of the Statement's table words and the real class files: 13 classes; the members and pool entries that the words name. The judged class is class 1, her method 1. -/
namespace start1
open Jvm.ClassFile
def u (s : String) : CpInfo := .utf8 (stringToUtf16 s)
/-- a pool by its gaps: so many unusable entries, then the entry; so many at the end -/
def gap : Nat → List CpInfo → List CpInfo
  | 0, r => r
  | n + 1, r => .unusable :: gap n r
def poolList (es : List (Nat × CpInfo)) (last : Nat) : List CpInfo := es.foldr (fun e r => gap e.1 (e.2 :: r)) (gap last [])
def pool (es : List (Nat × CpInfo)) (last : Nat) : Array CpInfo := ⟨poolList es last⟩
def fileOf (pool : Array CpInfo) (this : Nat) (attrs : Array Attribute := #[]) (ms : Array MethodInfo := #[]) (fl : Nat := 33) (sup : Nat := 0) (ifs : Array Nat := #[]) (fds : Array FieldInfo := #[]) : ClassFile where
  minorVersion := 0
  majorVersion := 65
  constantPool := pool
  accessFlags := fl
  thisClass := this
  superClass := sup
  interfaces := ifs
  fields := fds
  methods := ms
  attributes := attrs
def plain (name : String) (sup : Option ClassId) : Class where
  name := name
  kind := .ordinary
  loader := none
  accessFlags := 33
  super := sup
  interfaces := #[]
  cf := none
  fields := #[]
  methods := #[]
  instanceTypes := #[]
  staticTypes := #[]
  resolved := #[]
  callSites := []
  init := .initialized
  statics := none
  mirror := none

def pool0 : Array CpInfo := pool [(5, u "<init>"), (0, u "()V"), (1, .class_ 10), (1, u "java/lang/Object")] 113

def k0m0 : Method := { name := "<init>", desc := "()V", sig := { parameters := [], returnType := none }, accessFlags := 1, code := none }
/-- java/lang/Object -/
def k0 : Class := { plain "java/lang/Object" none with
  accessFlags := 33
  interfaces := #[]
  cf := some (fileOf pool0 8 #[] #[{ accessFlags := 1, nameIndex := 5, descriptorIndex := 6, attributes := #[] }] 33 0 #[] #[])
  fields := #[]
  methods := #[k0m0]
  instanceTypes := #[]
  staticTypes := #[]
  resolved := Array.replicate 124 none
  statics := none }

def pool1 : Array CpInfo := pool [(2, .class_ 4), (1, u "java/lang/Object"), (0, u "<init>"), (0, u "()V"), (0, .class_ 8), (0, u "com/example/tidemark/tidemark/UuidRepresentation"), (0, .fieldref 7 10), (0, .nameAndType 11 12), (0, u "STANDARD"), (0, u "Lcom/example/tidemark/tidemark/UuidRepresentation;"), (0, .fieldref 7 14), (0, .nameAndType 15 12), (0, u "JAVA_LEGACY"), (0, .fieldref 7 17), (0, .nameAndType 18 12), (0, u "CSHARP_LEGACY"), (0, .fieldref 7 20), (0, .nameAndType 21 12), (0, u "PYTHON_LEGACY"), (0, .fieldref 7 23), (0, .nameAndType 24 12), (0, u "UNSPECIFIED"), (0, .integer 2147483647), (0, .methodref 27 28), (0, .class_ 29), (0, .nameAndType 30 31), (0, u "com/example/tidemark/tidemark/UuidRepresentationReorderPinLaw"), (0, u "byteOf"), (0, u "(JJI)B"), (0, .methodref 7 33), (0, .nameAndType 34 35), (0, u "reorder"), (0, u "([B)[B"), (0, .methodref 27 37), (0, .nameAndType 38 39), (0, u "ok"), (0, u "(Lcom/example/tidemark/tidemark/UuidRepresentation;[B[BJJI)Z"), (0, .methodref 27 41), (0, .nameAndType 42 43), (0, u "src"), (0, u "(Lcom/example/tidemark/tidemark/UuidRepresentation;I)I"), (2, u "law"), (0, u "(JJI)Z")] 7

def k1m0 : Method := { name := "<init>", desc := "()V", sig := { parameters := [], returnType := none }, accessFlags := 1, code := none }
def k1c1 : Code := { maxStack := 8, maxLocals := 9, code := code, exceptionTable := #[], attributes := #[] }
def k1m1 : Method := { name := "law", desc := "(JJI)Z", sig := { parameters := [.long, .long, .int], returnType := some .boolean }, accessFlags := 9, code := some k1c1 }
def k1c2 : Code := { maxStack := 7, maxLocals := 8, code := method_3_code, exceptionTable := #[], attributes := #[] }
def k1m2 : Method := { name := "ok", desc := "(Lcom/example/tidemark/tidemark/UuidRepresentation;[B[BJJI)Z", sig := { parameters := [(.object "com/example/tidemark/tidemark/UuidRepresentation"), (.array .byte), (.array .byte), .long, .long, .int], returnType := some .boolean }, accessFlags := 10, code := some k1c2 }
def k1c3 : Code := { maxStack := 5, maxLocals := 5, code := method_4_code, exceptionTable := #[], attributes := #[] }
def k1m3 : Method := { name := "byteOf", desc := "(JJI)B", sig := { parameters := [.long, .long, .int], returnType := some .byte }, accessFlags := 10, code := some k1c3 }
def k1c4 : Code := { maxStack := 2, maxLocals := 2, code := method_5_code, exceptionTable := #[], attributes := #[] }
def k1m4 : Method := { name := "src", desc := "(Lcom/example/tidemark/tidemark/UuidRepresentation;I)I", sig := { parameters := [(.object "com/example/tidemark/tidemark/UuidRepresentation"), .int], returnType := some .int }, accessFlags := 10, code := some k1c4 }
/-- com/example/tidemark/tidemark/UuidRepresentationReorderPinLaw -/
def k1 : Class := { plain "com/example/tidemark/tidemark/UuidRepresentationReorderPinLaw" (some 0) with
  accessFlags := 49
  interfaces := #[]
  cf := some (fileOf pool1 27 #[] #[{ accessFlags := 1, nameIndex := 5, descriptorIndex := 6, attributes := #[] }, { accessFlags := 9, nameIndex := 46, descriptorIndex := 47, attributes := #[] }, { accessFlags := 10, nameIndex := 38, descriptorIndex := 39, attributes := #[] }, { accessFlags := 10, nameIndex := 30, descriptorIndex := 31, attributes := #[] }, { accessFlags := 10, nameIndex := 42, descriptorIndex := 43, attributes := #[] }] 49 2 #[] #[])
  fields := #[]
  methods := #[k1m0, k1m1, k1m2, k1m3, k1m4]
  instanceTypes := #[]
  staticTypes := #[]
  resolved := Array.replicate 55 none
  statics := none }

def pool2 : Array CpInfo := pool [(1, .class_ 2), (0, u "java/lang/constant/Constable"), (0, .class_ 4), (0, u "java/lang/Object")] 6

/-- java/lang/constant/Constable -/
def k2 : Class := { plain "java/lang/constant/Constable" (some 0) with
  accessFlags := 1537
  interfaces := #[]
  cf := some (fileOf pool2 1 #[] #[] 1537 3 #[] #[])
  fields := #[]
  methods := #[]
  instanceTypes := #[]
  staticTypes := #[]
  resolved := Array.replicate 11 none
  statics := none }

def pool3 : Array CpInfo := pool [(1, .class_ 2), (0, u "java/lang/Comparable"), (0, .class_ 4), (0, u "java/lang/Object")] 7

/-- java/lang/Comparable -/
def k3 : Class := { plain "java/lang/Comparable" (some 0) with
  accessFlags := 1537
  interfaces := #[]
  cf := some (fileOf pool3 1 #[] #[] 1537 3 #[] #[])
  fields := #[]
  methods := #[]
  instanceTypes := #[]
  staticTypes := #[]
  resolved := Array.replicate 12 none
  statics := none }

def pool4 : Array CpInfo := pool [(1, .class_ 2), (0, u "java/io/Serializable"), (0, .class_ 4), (0, u "java/lang/Object")] 2

/-- java/io/Serializable -/
def k4 : Class := { plain "java/io/Serializable" (some 0) with
  accessFlags := 1537
  interfaces := #[]
  cf := some (fileOf pool4 1 #[] #[] 1537 3 #[] #[])
  fields := #[]
  methods := #[]
  instanceTypes := #[]
  staticTypes := #[]
  resolved := Array.replicate 7 none
  statics := none }

def pool5 : Array CpInfo := pool [(2, .class_ 4), (1, u "java/lang/Enum"), (0, u "name"), (0, u "Ljava/lang/String;"), (2, u "ordinal"), (0, u "I"), (1, .class_ 14), (1, u "java/lang/Object"), (4, u "hash"), (86, .class_ 108), (1, u "java/lang/Enum$EnumDesc"), (2, .class_ 112), (0, u "java/lang/constant/Constable"), (0, .class_ 114), (0, u "java/lang/Comparable"), (0, .class_ 116), (0, u "java/io/Serializable")] 87

/-- java/lang/Enum -/
def k5 : Class := { plain "java/lang/Enum" (some 0) with
  accessFlags := 1057
  interfaces := #[2, 3, 4]
  cf := some (fileOf pool5 2 #[.nestMembers #[106]] #[] 1057 12 #[111, 113, 115] #[{ accessFlags := 18, nameIndex := 5, descriptorIndex := 6, attributes := #[] }, { accessFlags := 18, nameIndex := 9, descriptorIndex := 10, attributes := #[] }, { accessFlags := 2, nameIndex := 19, descriptorIndex := 10, attributes := #[] }])
  fields := #[{ name := "name", type := (.object "java/lang/String"), accessFlags := 18, slot := 0, constantValue := 0 }, { name := "ordinal", type := .int, accessFlags := 18, slot := 1, constantValue := 0 }, { name := "hash", type := .int, accessFlags := 2, slot := 2, constantValue := 0 }]
  methods := #[]
  instanceTypes := #[(.object "java/lang/String"), .int, .int]
  staticTypes := #[]
  resolved := Array.replicate 204 none
  statics := none }

def pool6 : Array CpInfo := pool [(1, .class_ 2), (0, u "com/example/tidemark/tidemark/UuidRepresentation"), (2, u "STANDARD"), (0, u "Lcom/example/tidemark/tidemark/UuidRepresentation;"), (2, u "JAVA_LEGACY"), (2, u "CSHARP_LEGACY"), (2, u "PYTHON_LEGACY"), (2, u "UNSPECIFIED"), (2, u "$VALUES"), (0, u "[Lcom/example/tidemark/tidemark/UuidRepresentation;"), (6, .class_ 31), (1, u "java/lang/Enum"), (8, u "name"), (0, u "Ljava/lang/String;"), (2, u "subtype"), (0, u "I"), (2, u "order"), (1, .fieldref 1 51), (0, .nameAndType 48 52), (0, u "[I"), (24, u "BYTES"), (12, u "reorder"), (0, u "([B)[B")] 9

def k6c0 : Code := { maxStack := 5, maxLocals := 4, code := prog_25_method_6_code, exceptionTable := #[], attributes := #[] }
def k6m0 : Method := { name := "reorder", desc := "([B)[B", sig := { parameters := [(.array .byte)], returnType := some (.array .byte) }, accessFlags := 0, code := some k6c0 }
/-- com/example/tidemark/tidemark/UuidRepresentation -/
def k6 : Class := { plain "com/example/tidemark/tidemark/UuidRepresentation" (some 5) with
  accessFlags := 16433
  interfaces := #[]
  cf := some (fileOf pool6 1 #[] #[{ accessFlags := 0, nameIndex := 90, descriptorIndex := 91, attributes := #[] }] 16433 29 #[] #[{ accessFlags := 16409, nameIndex := 5, descriptorIndex := 6, attributes := #[] }, { accessFlags := 16409, nameIndex := 9, descriptorIndex := 6, attributes := #[] }, { accessFlags := 16409, nameIndex := 12, descriptorIndex := 6, attributes := #[] }, { accessFlags := 16409, nameIndex := 15, descriptorIndex := 6, attributes := #[] }, { accessFlags := 16409, nameIndex := 18, descriptorIndex := 6, attributes := #[] }, { accessFlags := 26, nameIndex := 77, descriptorIndex := 45, attributes := #[] }, { accessFlags := 18, nameIndex := 40, descriptorIndex := 41, attributes := #[] }, { accessFlags := 18, nameIndex := 44, descriptorIndex := 45, attributes := #[] }, { accessFlags := 18, nameIndex := 48, descriptorIndex := 52, attributes := #[] }, { accessFlags := 4122, nameIndex := 21, descriptorIndex := 22, attributes := #[] }])
  fields := #[{ name := "STANDARD", type := (.object "com/example/tidemark/tidemark/UuidRepresentation"), accessFlags := 16409, slot := 0, constantValue := 0 }, { name := "JAVA_LEGACY", type := (.object "com/example/tidemark/tidemark/UuidRepresentation"), accessFlags := 16409, slot := 1, constantValue := 0 }, { name := "CSHARP_LEGACY", type := (.object "com/example/tidemark/tidemark/UuidRepresentation"), accessFlags := 16409, slot := 2, constantValue := 0 }, { name := "PYTHON_LEGACY", type := (.object "com/example/tidemark/tidemark/UuidRepresentation"), accessFlags := 16409, slot := 3, constantValue := 0 }, { name := "UNSPECIFIED", type := (.object "com/example/tidemark/tidemark/UuidRepresentation"), accessFlags := 16409, slot := 4, constantValue := 0 }, { name := "BYTES", type := .int, accessFlags := 26, slot := 5, constantValue := 0 }, { name := "name", type := (.object "java/lang/String"), accessFlags := 18, slot := 3, constantValue := 0 }, { name := "subtype", type := .int, accessFlags := 18, slot := 4, constantValue := 0 }, { name := "order", type := (.array .int), accessFlags := 18, slot := 5, constantValue := 0 }, { name := "$VALUES", type := (.array (.object "com/example/tidemark/tidemark/UuidRepresentation")), accessFlags := 4122, slot := 6, constantValue := 0 }]
  methods := #[k6m0]
  instanceTypes := #[(.object "java/lang/String"), .int, .int, (.object "java/lang/String"), .int, (.array .int)]
  staticTypes := #[(.object "com/example/tidemark/tidemark/UuidRepresentation"), (.object "com/example/tidemark/tidemark/UuidRepresentation"), (.object "com/example/tidemark/tidemark/UuidRepresentation"), (.object "com/example/tidemark/tidemark/UuidRepresentation"), (.object "com/example/tidemark/tidemark/UuidRepresentation"), .int, (.array (.object "com/example/tidemark/tidemark/UuidRepresentation"))]
  resolved := Array.replicate 101 none
  statics := some 0 }

def pool7 : Array CpInfo := pool [(1, u "java/lang/Cloneable"), (0, .class_ 1), (0, u "java/lang/Object"), (0, .class_ 3)] 3

/-- java/lang/Cloneable -/
def k7 : Class := { plain "java/lang/Cloneable" (some 0) with
  accessFlags := 1537
  interfaces := #[]
  cf := some (fileOf pool7 2 #[] #[] 1537 4 #[] #[])
  fields := #[]
  methods := #[]
  instanceTypes := #[]
  staticTypes := #[]
  resolved := Array.replicate 8 none
  statics := none }

/-- the primitive byte -/
def k8 : Class := { plain "byte" none with kind := .primitive 'B', accessFlags := 0x411 }
/-- [B -/
def k9 : Class := { plain "[B" (some 0) with kind := .array 8 .byte, interfaces := #[7, 4], accessFlags := 1041 }

/-- the primitive int -/
def k10 : Class := { plain "int" none with kind := .primitive 'I', accessFlags := 0x411 }
/-- [I -/
def k11 : Class := { plain "[I" (some 0) with kind := .array 10 .int, interfaces := #[7, 4], accessFlags := 1041 }

/-- [Lcom/example/tidemark/tidemark/UuidRepresentation; -/
def k12 : Class := { plain "[Lcom/example/tidemark/tidemark/UuidRepresentation;" (some 0) with kind := .array 6 (.object "com/example/tidemark/tidemark/UuidRepresentation"), interfaces := #[7, 4], accessFlags := 1041 }

def heap : Heap := #[{ cls := 6, slots := #[.ref 6, .ref 7, .ref 8, .ref 9, .ref 10, .int 0, .null], vm := .statics 6 },
  { cls := 11, slots := #[.int 0, .int 1, .int 2, .int 3, .int 4, .int 5, .int 6, .int 7, .int 8, .int 9, .int 10, .int 11, .int 12, .int 13, .int 14, .int 15], vm := .none },
  { cls := 11, slots := #[.int 7, .int 6, .int 5, .int 4, .int 3, .int 2, .int 1, .int 0, .int 15, .int 14, .int 13, .int 12, .int 11, .int 10, .int 9, .int 8], vm := .none },
  { cls := 11, slots := #[.int 3, .int 2, .int 1, .int 0, .int 5, .int 4, .int 7, .int 6, .int 8, .int 9, .int 10, .int 11, .int 12, .int 13, .int 14, .int 15], vm := .none },
  { cls := 11, slots := #[.int 0, .int 1, .int 2, .int 3, .int 4, .int 5, .int 6, .int 7, .int 8, .int 9, .int 10, .int 11, .int 12, .int 13, .int 14, .int 15], vm := .none },
  { cls := 11, slots := #[.int 0, .int 1, .int 2, .int 3, .int 4, .int 5, .int 6, .int 7, .int 8, .int 9, .int 10, .int 11, .int 12, .int 13, .int 14, .int 15], vm := .none },
  { cls := 6, slots := #[.null, .int 0, .int 0, .null, .int 0, .ref 1], vm := .none },
  { cls := 6, slots := #[.null, .int 1, .int 0, .null, .int 0, .ref 2], vm := .none },
  { cls := 6, slots := #[.null, .int 2, .int 0, .null, .int 0, .ref 3], vm := .none },
  { cls := 6, slots := #[.null, .int 3, .int 0, .null, .int 0, .ref 4], vm := .none },
  { cls := 6, slots := #[.null, .int 4, .int 0, .null, .int 0, .ref 5], vm := .none }]
def classes : Array Class := #[k0, k1, k2, k3, k4, k5, k6, k7, k8, k9, k10, k11, k12]
def interned : List (Array UInt16 × Addr) := []
def slotsUsed : Nat := 117
def theMethod : MethodId := ⟨1, 1⟩
def args0 : Array Value := #[.long 5, .long 1, .int 7]
def aboutOver (below : List Frame) : State where
  vm := { classes := classes, interned := interned.toArray }
  heap := heap
  slotsUsed := slotsUsed
  threads := #[{ frames := .invoking theMethod args0 :: below }]
def below0 : List Frame := [.native { method := ⟨0, 0⟩, args := #[] }]
def about1 : State := aboutOver below0
def p0 : Program := .bare "" "" ""
def e0 : Env := launch0.env 0 0 0
theorem w_frames : about1.frames = Frame.invoking theMethod args0 :: below0 := rfl
set_option maxRecDepth 65536 in
theorem w_args : argsFit about1.vm theMethod args0 = true := by decide +kernel
set_option maxRecDepth 65536 in
theorem w_heap : heapFits about1 = true := by decide +kernel
set_option maxRecDepth 65536 in
theorem w_runnable : about1.curStatus? = some .runnable := by decide +kernel
set_option maxRecDepth 65536 in
theorem w_alone : about1.alone = true := by decide +kernel
set_option maxRecDepth 65536 in
theorem w_named : about1.methodNamed? x = some theMethod := by decide +kernel
set_option maxRecDepth 65536 in
theorem w_hears : about1.hears theMethod below0 = true := by decide +kernel
set_option maxRecDepth 65536 in
theorem w_ripe : about1.ripe theMethod args0 below0 = true := by decide +kernel
theorem w_running : about1.status = .running := rfl
set_option maxRecDepth 65536 in
theorem w_room : about1.hasRoom e0.platform room_1 = true :=
  launch0.hasRoom_least _ room_1 (by decide +kernel) (by decide +kernel) (by decide +kernel) (by decide +kernel) (by decide +kernel) (by decide +kernel)
theorem allAtoms_all (ts : List Jvm.Cond) (a : Array Jvm.Value) (st : Jvm.State) : (allAtoms ts).before a st = ts.all (fun c => c.before a st) := by
  induction ts with
  | nil => rfl
  | cons c t ih =>
    show (Jvm.Cond.and c (allAtoms t)).before a st = _
    rw [Jvm.Cond.before_and, ih, List.all_cons]
def words1 : List Jvm.Cond := Jvm.Cond.code x code maxLocals ret :: tables_1
/-- a 'code' word, met by the world's own term for the bytes: nothing is compared byte by byte -/
theorem code_word {y : MethodName} {bytes : ByteArray} {mx : Nat} {rt : Option FieldType} {a : Array Value} {s : State} {m : MethodId} {meth : Method} {c : Code} (h1 : s.methodNamed? y = some m) (h2 : s.vm.method? m = some meth) (h3 : meth.code = some c) (h4 : c.code = bytes)
    (h5 : (c.maxLocals == mx && c.exceptionTable.isEmpty && decide (c.maxStack ≤ mostOperands) && decide (meth.sig.returnType = rt) && !meth.locks && decide (parseMethodDescriptor y.desc = some meth.sig)) = true) : (Jvm.Cond.code y bytes mx rt).before a s = true := by
  simp only [Bool.and_eq_true, beq_iff_eq, Bool.not_eq_true', decide_eq_true_eq] at h5
  obtain ⟨⟨⟨⟨⟨g1, g2⟩, g3⟩, g4⟩, g5⟩, g6⟩ := h5
  simp [Cond.before, Cond.holds, Cond.value, h1, h2, h3, h4, g1, g2, g3, g4, g5, g6]
def isCode : Jvm.Cond → Bool
  | .code _ _ _ _ => true
  | _ => false
theorem all_split {L : List Jvm.Cond} {P : Jvm.Cond → Bool} (h1 : L.all (fun c => isCode c || P c) = true) (h2 : ∀ c ∈ L.filter isCode, P c = true) : L.all P = true := by
  refine List.all_eq_true.mpr fun c hc => ?_
  have h := List.all_eq_true.mp h1 c hc
  rcases Bool.eq_false_or_eq_true (isCode c) with hi | hi
  · exact h2 c (List.mem_filter.mpr ⟨hc, hi⟩)
  · simpa [hi] using h
set_option maxRecDepth 65536 in
theorem w_c0 : (Jvm.Cond.code x code maxLocals ret).before args0 about1 = true := code_word (m := ⟨1, 1⟩) (meth := k1m1) (c := k1c1) (by decide +kernel) rfl rfl rfl (by decide +kernel)
set_option maxRecDepth 65536 in
theorem w_c1 : (Jvm.Cond.code ({ cls := "com/example/tidemark/tidemark/UuidRepresentationReorderPinLaw", name := "byteOf", desc := "(JJI)B" } : Jvm.MethodName) method_4_code (5 : Nat) (Option.some Jvm.ClassFile.FieldType.byte)).before args0 about1 = true := code_word (m := ⟨1, 3⟩) (meth := k1m3) (c := k1c3) (by decide +kernel) rfl rfl rfl (by decide +kernel)
set_option maxRecDepth 65536 in
theorem w_c2 : (Jvm.Cond.code ({ cls := "com/example/tidemark/tidemark/UuidRepresentation", name := "reorder", desc := "([B)[B" } : Jvm.MethodName) prog_25_method_6_code (4 : Nat) (Option.some (Jvm.ClassFile.FieldType.array Jvm.ClassFile.FieldType.byte))).before args0 about1 = true := code_word (m := ⟨6, 0⟩) (meth := k6m0) (c := k6c0) (by decide +kernel) rfl rfl rfl (by decide +kernel)
set_option maxRecDepth 65536 in
theorem w_c3 : (Jvm.Cond.code ({ cls := "com/example/tidemark/tidemark/UuidRepresentationReorderPinLaw", name := "ok", desc := "(Lcom/example/tidemark/tidemark/UuidRepresentation;[B[BJJI)Z" } : Jvm.MethodName) method_3_code (8 : Nat) (Option.some Jvm.ClassFile.FieldType.boolean)).before args0 about1 = true := code_word (m := ⟨1, 2⟩) (meth := k1m2) (c := k1c2) (by decide +kernel) rfl rfl rfl (by decide +kernel)
set_option maxRecDepth 65536 in
theorem w_c4 : (Jvm.Cond.code ({ cls := "com/example/tidemark/tidemark/UuidRepresentationReorderPinLaw", name := "src", desc := "(Lcom/example/tidemark/tidemark/UuidRepresentation;I)I" } : Jvm.MethodName) method_5_code (2 : Nat) (Option.some Jvm.ClassFile.FieldType.int)).before args0 about1 = true := code_word (m := ⟨1, 4⟩) (meth := k1m4) (c := k1c4) (by decide +kernel) rfl rfl rfl (by decide +kernel)
def codes1 : List Jvm.Cond := [Jvm.Cond.code x code maxLocals ret, Jvm.Cond.code ({ cls := "com/example/tidemark/tidemark/UuidRepresentationReorderPinLaw", name := "byteOf", desc := "(JJI)B" } : Jvm.MethodName) method_4_code (5 : Nat) (Option.some Jvm.ClassFile.FieldType.byte), Jvm.Cond.code ({ cls := "com/example/tidemark/tidemark/UuidRepresentation", name := "reorder", desc := "([B)[B" } : Jvm.MethodName) prog_25_method_6_code (4 : Nat) (Option.some (Jvm.ClassFile.FieldType.array Jvm.ClassFile.FieldType.byte)), Jvm.Cond.code ({ cls := "com/example/tidemark/tidemark/UuidRepresentationReorderPinLaw", name := "ok", desc := "(Lcom/example/tidemark/tidemark/UuidRepresentation;[B[BJJI)Z" } : Jvm.MethodName) method_3_code (8 : Nat) (Option.some Jvm.ClassFile.FieldType.boolean), Jvm.Cond.code ({ cls := "com/example/tidemark/tidemark/UuidRepresentationReorderPinLaw", name := "src", desc := "(Lcom/example/tidemark/tidemark/UuidRepresentation;I)I" } : Jvm.MethodName) method_5_code (2 : Nat) (Option.some Jvm.ClassFile.FieldType.int)]
set_option maxRecDepth 65536 in
theorem codes_eq : words1.filter isCode = codes1 := rfl
theorem w_codes : ∀ c ∈ words1.filter isCode, c.before args0 about1 = true := by
  rw [codes_eq]
  intro c hc
  simp only [codes1, List.mem_cons, List.not_mem_nil, or_false] at hc
  rcases hc with rfl | rfl | rfl | rfl | rfl
  · exact w_c0
  · exact w_c1
  · exact w_c2
  · exact w_c3
  · exact w_c4
set_option maxRecDepth 65536 in
theorem w_t1 : (words1.take 24).all (fun c => isCode c || c.before args0 about1) = true := by decide +kernel
set_option maxRecDepth 65536 in
theorem w_t2 : (words1.drop 24).all (fun c => isCode c || c.before args0 about1) = true := by decide +kernel
theorem w_tables : (allAtoms (Jvm.Cond.code x code maxLocals ret :: tables_1)).before args0 about1 = true := by
  rw [allAtoms_all]
  show words1.all (fun c => c.before args0 about1) = true
  refine all_split ?_ w_codes
  rw [← List.take_append_drop 24 words1, List.all_append, w_t1, w_t2]
  rfl
set_option maxRecDepth 65536 in
theorem w_case : (Jvm.Cond.and given_1 narrow_1).before args0 about1 = true := by decide +kernel
theorem w_applies : (headSpec (Jvm.Cond.code x code maxLocals ret :: tables_1) room_1).applies x e0.platform about1 = true :=
  (Spec.applies_iff w_frames).mpr ⟨w_running, w_runnable, w_alone, w_named, w_hears, w_ripe, w_room, w_tables⟩
theorem atStart : AtStart classFile x code maxLocals ret World_1 tables_1 room_1 Calls_1 rest_1 Pre_1 launch0 p0 e0 about1 theMethod args0 below0 :=
  ⟨lists_1, trivial, launch0.admits_env _ _ _, launch0.least_env, fairChoices_fair.cas, fairChoices_fair.clock, w_frames, w_args, w_heap, w_applies, trivial, trivial, w_case⟩
end start1
theorem witness_1 : WitnessClaimed_1 := ⟨start1.p0, start1.e0, start1.about1, start1.theMethod, start1.args0, start1.below0, start1.atStart⟩
end Jvm.Pilot.@@N@@
